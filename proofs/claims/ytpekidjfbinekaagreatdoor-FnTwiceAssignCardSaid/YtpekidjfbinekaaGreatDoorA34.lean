/- W27, W28, W30 -/
import Derived.Defers
import Derived.Test.YtpekidjfbinekaaGreatDoorA32
set_option maxRecDepth 100000
set_option maxHeartbeats 60000000
set_option linter.all false
namespace Go.Proofs.YtpekidjfbinekaaGreatDoor
open Go.RowKit Uni
def HA (B:MB)(ob:Nat):Nat->Prop:=fun b=>B.M b\/b=ob
def HW (B:MB)(ob:Nat):Nat->Prop:=fun b=>b=B.m\/b=ob
theorem HW.sub {B:MB}{ob:Nat}{w w':World}(h:Fr (HW B ob) w w'):Fr (HA B ob) w w':=h.mono fun b _ hb=>by
 rcases hb with hb | hb
 ·exact .inl (.inl hb)
 ·exact .inr hb
structure HIn (ar:Nat→Nat) (dl:Nat) (w:World) (A:Nat→Prop) (n:Nat) (x:TyV) (t:Tm):Prop where
 r:RT w A x t
 g:Uni.Good dl ar t
 h:Holes 2 n t
theorem HIn.keep {ar:Nat->Nat}{dl:Nat}{w w':World}{A:Nat->Prop}{n:Nat}{x:TyV}{t:Tm}(h:HIn ar dl w A n x t)(f:Fr A w w'):HIn ar dl w' A n x t:=⟨h.r.keep f,h.g,h.h⟩
structure LAt (ar:Nat→Nat) (dl:Nat) (w:World) (A:Nat→Prop) (n:Nat) (a:Option Addr) (len cap:Nat) (l:List Tm):Prop where
 ex: ∃xs,xB w A a xs/\xs.length=l.length/\ ∀(i:Nat) (y:TyV) (t:Tm),xs[i]?=some y->l[i]?=some t->HIn ar dl w A n y t
 hlen:l.length=len
 hle:len<=cap
 hmx:cap<=maxLen
theorem LAt.keep {ar:Nat->Nat}{dl:Nat}{w w':World}{A:Nat->Prop}{n:Nat}{a:Option Addr}{len cap:Nat}{l:List Tm}(h:LAt ar dl w A n a len cap l)(f:Fr A w w'):LAt ar dl w' A n a len cap l:=by
 obtain ⟨⟨xs,h1,h2,h3⟩,h4,h5,h6⟩:=h;exact ⟨⟨xs,h1.keep f,h2,fun i y t hy ht=>(h3 i y t hy ht).keep f⟩,h4,h5,h6⟩
structure HRep (ar:Nat→Nat) (dl:Nat) (w:World) (B:MB) (ob:Nat) (n:Nat) (M:Mg) (fuel:Int) (dv:Value) (oa:Option Addr):Prop where
 m: ∃ca cc va vc,w.heap[B.m]?=some (.cells #[dv,.slice ca n cc,.slice va n vc,.int .i64 fuel] 80 (0,0))/\(0 < n->ca=some ⟨B.c,0,none⟩/\va=some ⟨B.v,0,none⟩)
 c:0 < n-> ∃c,w.heap[B.c]?=some (.cells c 3 (0,0))/\ ∀p,p < n->c[p]?=some (.int .i64 (M.cls p))
 v:0 < n-> ∃c,w.heap[B.v]?=some (.cells c 24 (0,0))/\ ∀p,p < n-> ∃a len cap,c[p]?=some (.slice a len cap)/\LAt ar dl w (HA B ob) n a len cap (M.vals p)
 o:0 < n->oa=some ⟨ob,0,none⟩/\ ∃c,w.heap[ob]?=some (.cells c 4 (0,0))/\ ∀p,p < n-> ∃b,c[p]?=some (.bool b)
 lt: ∀p,p < n->M.cls p < n
 len: ∀p,p < n->(M.vals (M.cls p)).length<=20000
 ne:0 < n->B.m≠B.c/\B.m≠B.v/\B.c≠B.v/\ob≠B.m/\ob≠B.c/\ob≠B.v
 below: ∀b,HA B ob b->b < w.heap.size
section
variable {ar:Nat->Nat}{dl:Nat}
theorem HRep.next {w w':World}{B:MB}{ob n:Nat}{M:Mg}{fuel:Int}{dv:Value}{oa:Option Addr}(h:HRep ar dl w B ob n M fuel dv oa)(F:Fr (HW B ob) w w')(f':Int)
 (hm: ∃ca cc va vc,w'.heap[B.m]?=some (.cells #[dv,.slice ca n cc,.slice va n vc,.int .i64 f'] 80 (0,0))/\(0 < n->ca=some ⟨B.c,0,none⟩/\va=some ⟨B.v,0,none⟩))
 (ho:0 < n-> ∃c,w'.heap[ob]?=some (.cells c 4 (0,0))/\ ∀p,p < n-> ∃b,c[p]?=some (.bool b)):HRep ar dl w' B ob n M f' dv oa:=by
 obtain ⟨_,hc,hv,ho',h1,h2,h3,h4⟩:=h;refine ⟨hm,fun hn=> ?_,fun hn=> ?_,fun hn=>⟨(ho' hn).1,ho hn⟩,h1,h2,h3,fun b hb=>Nat.lt_of_lt_of_le (h4 b hb) F.size⟩
 ·obtain ⟨c,h,h'⟩:=hc hn
  exact ⟨c,F.heap (fun hb=>by rcases hb with hb | hb;exact (h3 hn).1 hb.symm;exact (h3 hn).2.2.2.2.1 hb.symm) h,h'⟩
 ·obtain ⟨c,h,h'⟩:=hv hn
  refine ⟨c,F.heap (fun hb=>by rcases hb with hb | hb;exact (h3 hn).2.1 hb.symm;exact (h3 hn).2.2.2.2.2 hb.symm) h,fun p hp=> ?_⟩;obtain ⟨a,len,cap,e,l⟩:=h' p hp;exact ⟨a,len,cap,e,l.keep (HW.sub F)⟩
theorem HRep.keep {w w':World}{B:MB}{ob n:Nat}{M:Mg}{fuel:Int}{dv:Value}{oa:Option Addr}(h:HRep ar dl w B ob n M fuel dv oa)(F:Fr F0 w w'):HRep ar dl w' B ob n M fuel dv oa:=by
 refine h.next F.sub fuel ?_ fun hn=> ?_
 ·obtain ⟨ca,cc,va,vc,h1,h2⟩:=h.m
  exact ⟨ca,cc,va,vc,F.heap id h1,h2⟩
 ·obtain ⟨_,c,h1,h2⟩:=h.o hn
  exact ⟨c,F.heap id h1,h2⟩
theorem HRep.setFuel {w:World}{B:MB}{ob n:Nat}{M:Mg}{fuel:Int}{dv:Value}{oa:Option Addr}(h:HRep ar dl w B ob n M fuel dv oa)(f':Int):HRep ar dl (w.setCell ⟨B.m,3,none⟩ (.int .i64 f')) B ob n M f' dv oa:=by
 refine h.next ((Fr.refl _ w).setCell (p:=⟨B.m,3,none⟩) (.inl (.inl rfl)) _) f' ?_ fun hn=> ?_
 ·obtain ⟨ca,cc,va,vc,h1,h2⟩:=h.m
  exact ⟨ca,cc,va,vc,heap_setCell (a:=⟨B.m,3,none⟩) h1 rfl,h2⟩
 ·obtain ⟨_,c,h1,h2⟩:=h.o hn
  exact ⟨c,((Fr.refl (fun b=>b=B.m) w).setCell (p:=⟨B.m,3,none⟩) (.inl rfl) _).heap (h.ne hn).2.2.2.1 h1,h2⟩
theorem HRep.setMark {w:World}{B:MB}{ob n:Nat}{M:Mg}{fuel:Int}{dv:Value}{oa:Option Addr}(h:HRep ar dl w B ob n M fuel dv oa)(hn:0 < n)(c:Nat)(b:Bool):HRep ar dl (w.setCell ⟨ob,c,none⟩ (.bool b)) B ob n M fuel dv oa:=by
 refine h.next ((Fr.refl _ w).setCell (p:=⟨ob,c,none⟩) (.inl (.inr rfl)) _) fuel ?_ fun hn=> ?_
 ·obtain ⟨ca,cc,va,vc,h1,h2⟩:=h.m
  exact ⟨ca,cc,va,vc,((Fr.refl (fun b=>b=ob) w).setCell (p:=⟨ob,c,none⟩) (.inl rfl) _).heap (Ne.symm (h.ne hn).2.2.2.1) h1,h2⟩
 ·obtain ⟨_,cs,h1,h2⟩:=h.o hn
  refine ⟨_,heap_setCell (a:=⟨ob,c,none⟩) h1 rfl,fun p hp=> ?_⟩;obtain ⟨b',hb'⟩:=h2 p hp;rw [Array.getElem?_setIfInBounds];by_cases hcp:c=p
  ·subst hcp
   rw [if_pos rfl,if_pos (Array.getElem?_eq_some_iff.1 hb').1];exact ⟨b,rfl⟩
  ·rw [if_neg hcp];exact ⟨b',hb'⟩
def HPost (ar:Nat→Nat)(dl:Nat)(D:zE)(B:MB)(ob n:Nat)(dv:Value)(oa:Option Addr)(w:World)(M:Mg)(fuel:Int)(t:Tm)(e:Ending)(w':World):Prop:=
 ∃(h:Int) (ok:Bool) (f':Int),e= .returned (.tuple #[.int .i64 h,.bool ok])∧HRep ar dl w' B ob n M f' dv oa∧Fr (HW B ob) w w'∧f'≤fuel - 1∧0≤f'∧0≤h∧h≤2 * (fuel - f')∧
  (ok=true->1<=f'/\Ht D M (h.toNat + 2) t)
def HStep (da:Option Addr)(dl dc:Nat)(D:zE)(ar:Nat→Nat)(F:Nat):Prop:=
 ∀(t:Tm) (x:TyV) (w:World) (B:MB) (ob n:Nat) (M:Mg) (fuel:Int) (oa:Option Addr) (oc:Nat),fuel≤F→F≤20000→1≤fuel→HRep ar dl w B ob n M fuel (.slice da dl dc) oa→DRep w (HA B ob) da dl D ar→HIn ar dl w (HA B ob) n x t→
  Calls Tryz.prog 48 #[.pointer (some ⟨B.m,0,none⟩),x.val,.slice oa n oc] w (HPost ar dl D B ob n (.slice da dl dc) oa w M fuel t)
def xS (D:zE)(M:Mg)(l:List Tm)(step:Nat)(j:Nat)(h:Int):Prop:= ∀i e,i < j->l[i]?=some e-> ∃k:Nat,(k:Int) + step<=h/\Ht D M (k + 2) e
theorem xS.start (D:zE)(M:Mg)(l:List Tm)(step:Nat)(h:Int):xS D M l step 0 h:=fun i e hi=>by omega
theorem xS.next {D:zE}{M:Mg}{l:List Tm}{step j:Nat}{h h' g:Int}{t:Tm}(f:xS D M l step j h)(ht:l[j]?=some t)(hg:0<=g)(hH:Ht D M (g.toNat + 2) t)(h1:h<=h')(h2:g + step<=h'):xS D M l step (j + 1) h':=by
 intro i e hi he;by_cases hij:i=j
 ·subst hij
  rw [ht] at he;cases he;exact ⟨g.toNat,by omega,hH⟩
 ·obtain ⟨k,h3,h4⟩:=f i e (by omega) he
  exact ⟨k,by omega,h4⟩
theorem xS.all {D:zE}{M:Mg}{l:List Tm}{step:Nat}{h:Int}(f:xS D M l step l.length h)(a:Tm)(ha:a∈l): ∃k:Nat,(k:Int) + step<=h/\Ht D M (k + 2) a:=by
 obtain ⟨i,hi,he⟩:=List.mem_iff_getElem.1 ha;exact f i a hi (by simp [hi,he])
theorem xS.node {D:zE}{M:Mg}{f:Lab}{ts:List Tm}{h:Int}(hh:0<=h)(hf:f.kind≠10)(hf1:f.kind≠1)(F:xS D M ts 1 ts.length h):Ht D M (h.toNat + 2) (.node f ts):=
 .node _ f ts hf (fun a ha=>by obtain ⟨k,h1,h2⟩:=F.all a ha;exact h2.mono (by omega)) fun h1=>absurd h1 hf1
theorem xS.named {D:zE}{M:Mg}{f:Lab}{ts:List Tm}{h:Int}(hh:0<=h)(hf1:f.kind=1)(F:xS D M (ts ++ [und D (.node f ts)]) 1 (ts ++ [und D (.node f ts)]).length h):Ht D M (h.toNat + 2) (.node f ts):=
 .node _ f ts (by omega) (fun a ha=>by obtain ⟨k,h1,h2⟩:=F.all a (by simp [ha]);exact h2.mono (by omega)) fun _=>by obtain ⟨k,h1,h2⟩:=F.all (und D (.node f ts)) (by simp);exact h2.mono (by omega)
theorem xS.func {D:zE}{M:Mg}{f:Lab}{ts:List Tm}{h:Int}(hh:0<=h)(hf:f.kind=10)(F:xS D M ts 2 ts.length h):Ht D M (h.toNat + 2) (.node f ts):=
 .func _ f ts hf (fun a ha=>by obtain ⟨k,h1,h2⟩:=F.all a ha;exact h2.mono (by omega))
theorem xS.var {D:zE}{M:Mg}{p:Nat}{h:Int}(hh:0<=h)(F:xS D M (M.vals (M.cls p)) 1 (M.vals (M.cls p)).length h):Ht D M (h.toNat + 2) (.var p):=
 .var _ p (fun a ha=>by obtain ⟨k,h1,h2⟩:=F.all a ha;exact h2.mono (by omega))
end
section
variable {da:Option Addr}{dl dc:Nat}{D:zE}{ar:Nat->Nat}
theorem height_out (x:TyV)(w:World)(B:MB)(ob n:Nat)(M:Mg)(fuel:Int)(dv:Value)(oa:Option Addr)(oc:Nat)(hM:HRep ar dl w B ob n M fuel dv oa)(hf:fuel<=1)(hl: -4611686018427387904<=fuel - 1):
 Calls Tryz.prog 48 #[.pointer (some ⟨B.m,0,none⟩),x.val,.slice oa n oc] w fun e w'=>e= .returned (.tuple #[.int .i64 0,.bool false])/\HRep ar dl w' B ob n M (fuel - 1) dv oa/\Fr (HW B ob) w w':=by
 have HM:=hid hM;obtain ⟨ca,cc,va,vc,hu,_⟩:=hM.m;have qm:=zA hu;have fm:=zC hu;have szm:=hM.below B.m (.inl (.inl rfl));clear hM hu;obtain ⟨xk,xn,xc,xv,xa,xlen,xcap,xnm⟩:=x;unfold TyV.val at *;dsimp only at *;go_enter_defers Tryz.func48,Tryz.ntmps48;go_wp2;exact ⟨_,results_tmp2 rfl _ _ _,rfl,(HM.out.setFuel (fuel - 1)).keep (((Fr.refl F0 _).alloc _).alloc _),(((Fr.refl (HW B ob) w).setCell (p:=⟨B.m,3,none⟩) (.inl (.inl rfl)) _).alloc _).alloc _⟩
theorem height_other (F:Nat)(ih:HStep da dl dc D ar F)(f:Lab)(ts:List Tm)(x:TyV)(w:World)(B:MB)(ob n:Nat)(M:Mg)(fuel:Int)(oa:Option Addr)(oc:Nat)(hF:fuel<=F + 1)(hF2:F + 1<=20000)(hf2:2<=fuel)
 (hM:HRep ar dl w B ob n M fuel (.slice da dl dc) oa) (hd:DRep w (HA B ob) da dl D ar) (hx:HIn ar dl w (HA B ob) n x (.node f ts)) (hk1:f.kind≠1) (hk10:f.kind≠10):
 Calls Tryz.prog 48 #[.pointer (some ⟨B.m,0,none⟩),x.val,.slice oa n oc] w (HPost ar dl D B ob n (.slice da dl dc) oa w M fuel (.node f ts)):=by
 have NM:=hid (fun b (h:w.heap.size<=b) (hb:HW B ob b)=>(Nat.not_lt.2 h (hM.below b (by rcases hb with hb | hb;exact .inl (.inl hb);exact .inr hb)):False));obtain ⟨xs,fx,nx,rx,sx⟩:=hx.r.flat;have sx:Shape x f xs:=sx;have kx:x.k=f.kind:=sx.k;have k2:=sx.k2;have x2:(x.k==2)=false:=by simp;omega
 have x10:(x.k==10)=false:=by rw [kx];simp;omega
 have x1:(x.k==1)=false:=by rw [kx];simp;omega
 obtain ⟨ca,cc,va,vc,hu,_⟩:=hM.m;have qm:=zA hu;have fm:=zC hu;have szm:=hM.below B.m (.inl (.inl rfl));have XE:=hid fx.elems;have LX:=hid fx.len;have LT:=hid (show ts.length=x.len by rw [<-fx.len];exact nx);have RX:=hid (fun i z t hz ht=>(⟨rx i z t hz ht,hx.g.kid (List.mem_of_getElem? ht),hx.h.kid (List.mem_of_getElem? ht)⟩:HIn ar dl w (HA B ob) n z t));have hbx:=fx.bound.2.1;clear fx nx rx sx;have HM:=hid hM;have HD:=hid hd;have HX:=hid hx;have IH:=hid ih
 clear hM hd hx ih hu kx k2;obtain ⟨xk,xn,xc,xv,xa,xlen,xcap,xnm⟩:=x;unfold TyV.val at *;dsimp only at *;have hle0: ¬(fuel - 1<=0):=by omega
 have hfu:fuel<=20000:=by omega
 have SC:=hid (show (w.setCell ⟨B.m,3,none⟩ (.int .i64 (fuel - 1))).heap.size=w.heap.size by simp [World.setCell]);go_enter_defers Tryz.func48,Tryz.ntmps48;go_wp2
 go_loopw [11,14,15,73] (fun h _ _ i wr=> ∃(j:Nat) (g f':Int),j≤xlen∧i= .int .i64 j∧h= .int .i64 g∧HRep ar dl wr B ob n M f' (.slice da dl dc) oa∧Fr (HW B ob) w wr∧
  wr.heap[w.heap.size + 1]?=some (.cells #[.slice oa n oc] 84 (0,0))/\f'<=fuel - 1/\1<=f'/\0<=g/\g<=2 * (fuel - f')/\xS D M ts 1 j g) (fun _ _ _ i _=>xlen - (intOf i).toNat)
 case atStart=>exact ⟨0,0,fuel - 1,Nat.zero_le _,rfl,rfl,(HM.out.setFuel (fuel - 1)).keep (((Fr.refl F0 _).alloc _).alloc _),(((Fr.refl (HW B ob) w).setCell (p:=⟨B.m,3,none⟩) (.inl (.inl rfl)) _).alloc _).alloc _,by have h:=zS (w.setCell ⟨B.m,3,none⟩ (.int .i64 (fuel - 1))) (.cells #[.int .i64 xk,.int .i64 xn,.int .i64 xc,.bool xv,.slice xa xlen xcap,.string xnm] 26) (.cells #[.slice oa n oc] 84);rw [SC.out] at h;exact h,by omega,by omega,by omega,by omega,xS.start _ _ _ _ _⟩
 case round=>
  obtain ⟨j,g,f1,hj,rfl,rfl,hM1,hF1,hBX,hf1,hf1',hg0,hg1,hR1⟩:=hrel;have HM1:=hid hM1;have HF:=hid hF1;have BX:=hid hBX;have HR:=hid hR1;clear hM1 hF1 hBX hR1;have qx:=zA BX.out;have szx:=bl (qx 0);dsimp only at szx;by_cases hlt:j < xlen
  ·obtain ⟨X,b1,o1,gX,rfl,e1⟩:=XE.out.elem (show j < xs.length by rw [LX.out];omega)
   have e1:=e1.keep (HW.sub HF.out);obtain ⟨_,a0,a1,a2,a3,a4,a5⟩:=e1;have hb1:b1 < wr.heap.size:=World.block_lt_of_cell? _ _ a0;have hle:(j:Int) < xlen:=by omega
   have GX:=hid gX;clear gX;obtain ⟨t,ht⟩: ∃t,ts[j]?=some t:=⟨ts[j]'(by rw [LT.out];omega),by simp⟩;have T:=hid ht;clear ht;go_wp2_with fail
   refine (IH.out t X _ B ob n M f1 oa oc (by omega) (by omega) hf1' (HM1.out.keep ((Fr.refl F0 _).alloc _)) (HD.out.keep ((HW.sub HF.out).alloc _)) ((RX.out j X t GX.out T.out).keep ((HW.sub HF.out).alloc _))).mono ?_;rintro e w2 ⟨h2,ok,f2,rfl,hM2,hF2,hf21,hf20,hh0,hh1,hok⟩;have HM2:=hid hM2;have HF2:=hid hF2;have OK:=hid hok;clear hM2 hF2 hok
   cases ok with
   |false=>
    go_wp2;exact ⟨_,results_tmp2 rfl _ _ _,0,false,f2,rfl,HM2.out,(HF.out.alloc _).trans HF2.out,by omega,hf20,by omega,by omega,fun h=>by cases h⟩
   |true=>
    have hok:=OK.out rfl;go_wp2;go_roundw
    case rel=>
     refine ⟨j + 1,if g < h2 + 1 then h2 + 1 else g,f2,by omega,by go_num,rfl,HM2.out,(HF.out.alloc _).trans HF2.out,HF2.out.heap (fun hb=>NM.out _ (Nat.le_succ _) hb) ((Below.heap_alloc _ _ _ szx).trans BX.out),by omega,hok.1,by split <;>omega,by split <;>omega,HR.out.next T.out hh0 hok.2 (by split <;>omega) (by split <;>omega)⟩
    case measure=>simp [intOf];omega
  ·have hge: ¬(j:Int) < xlen:=by omega
   have hjl:j=xlen:=by omega
   go_wp2;exact ⟨_,results_tmp2 rfl _ _ _,g,true,f1,rfl,HM1.out,HF.out,by omega,by omega,hg0,hg1,fun _=>⟨hf1',xS.node hg0 hk10 hk1 (by rw [LT.out,<-hjl];exact HR.out)⟩⟩
theorem height_func (F:Nat)(ih:HStep da dl dc D ar F)(f:Lab)(ts:List Tm)(x:TyV)(w:World)(B:MB)(ob n:Nat)(M:Mg)(fuel:Int)(oa:Option Addr)(oc:Nat)(hF:fuel<=F + 1)(hF2:F + 1<=20000)(hf2:2<=fuel)
 (hM:HRep ar dl w B ob n M fuel (.slice da dl dc) oa) (hd:DRep w (HA B ob) da dl D ar) (hx:HIn ar dl w (HA B ob) n x (.node f ts)) (hk10:f.kind=10):
 Calls Tryz.prog 48 #[.pointer (some ⟨B.m,0,none⟩),x.val,.slice oa n oc] w (HPost ar dl D B ob n (.slice da dl dc) oa w M fuel (.node f ts)):=by
 have NM:=hid (fun b (h:w.heap.size<=b) (hb:HW B ob b)=>(Nat.not_lt.2 h (hM.below b (by rcases hb with hb | hb;exact .inl (.inl hb);exact .inr hb)):False));obtain ⟨xs,fx,nx,rx,sx⟩:=hx.r.flat;have sx:Shape x f xs:=sx;have kx:x.k=f.kind:=sx.k;have k2:=sx.k2;have x10:x.k=10:=by rw [kx,hk10];rfl
 obtain ⟨ca,cc,va,vc,hu,_⟩:=hM.m;have qm:=zA hu;have fm:=zC hu;have szm:=hM.below B.m (.inl (.inl rfl));have XE:=hid fx.elems;have LX:=hid fx.len;have LT:=hid (show ts.length=x.len by rw [<-fx.len];exact nx);have RX:=hid (fun i z t hz ht=>(⟨rx i z t hz ht,hx.g.kid (List.mem_of_getElem? ht),hx.h.kid (List.mem_of_getElem? ht)⟩:HIn ar dl w (HA B ob) n z t));have hbx:=fx.bound.2.1;clear fx nx rx sx;have HM:=hid hM;have HD:=hid hd;have HX:=hid hx;have IH:=hid ih
 clear hM hd hx ih hu kx k2;obtain ⟨xk,xn,xc,xv,xa,xlen,xcap,xnm⟩:=x;unfold TyV.val at *;dsimp only at *;subst x10;have hle0: ¬(fuel - 1<=0):=by omega
 have hfu:fuel<=20000:=by omega
 have SC:=hid (show (w.setCell ⟨B.m,3,none⟩ (.int .i64 (fuel - 1))).heap.size=w.heap.size by simp [World.setCell]);go_enter_defers Tryz.func48,Tryz.ntmps48;go_wp2
 go_loopw [11,14,15,73] (fun h _ _ i wr=> ∃(j:Nat) (g f':Int),j≤xlen∧i= .int .i64 j∧h= .int .i64 g∧HRep ar dl wr B ob n M f' (.slice da dl dc) oa∧Fr (HW B ob) w wr∧
  wr.heap[w.heap.size + 1]?=some (.cells #[.slice oa n oc] 84 (0,0))/\f'<=fuel - 1/\1<=f'/\0<=g/\g<=2 * (fuel - f')/\xS D M ts 2 j g) (fun _ _ _ i _=>xlen - (intOf i).toNat)
 case atStart=>exact ⟨0,0,fuel - 1,Nat.zero_le _,rfl,rfl,(HM.out.setFuel (fuel - 1)).keep (((Fr.refl F0 _).alloc _).alloc _),(((Fr.refl (HW B ob) w).setCell (p:=⟨B.m,3,none⟩) (.inl (.inl rfl)) _).alloc _).alloc _,by have h:=zS (w.setCell ⟨B.m,3,none⟩ (.int .i64 (fuel - 1))) (.cells #[.int .i64 10,.int .i64 xn,.int .i64 xc,.bool xv,.slice xa xlen xcap,.string xnm] 26) (.cells #[.slice oa n oc] 84);rw [SC.out] at h;exact h,by omega,by omega,by omega,by omega,xS.start _ _ _ _ _⟩
 case round=>
  obtain ⟨j,g,f1,hj,rfl,rfl,hM1,hF1,hBX,hf1,hf1',hg0,hg1,hR1⟩:=hrel;have HM1:=hid hM1;have HF:=hid hF1;have BX:=hid hBX;have HR:=hid hR1;clear hM1 hF1 hBX hR1;have qx:=zA BX.out;have szx:=bl (qx 0);dsimp only at szx;by_cases hlt:j < xlen
  ·obtain ⟨X,b1,o1,gX,rfl,e1⟩:=XE.out.elem (show j < xs.length by rw [LX.out];omega)
   have e1:=e1.keep (HW.sub HF.out);obtain ⟨_,a0,a1,a2,a3,a4,a5⟩:=e1;have hb1:b1 < wr.heap.size:=World.block_lt_of_cell? _ _ a0;have hle:(j:Int) < xlen:=by omega
   have GX:=hid gX;clear gX;obtain ⟨t,ht⟩: ∃t,ts[j]?=some t:=⟨ts[j]'(by rw [LT.out];omega),by simp⟩;have T:=hid ht;clear ht;go_wp2_with fail
   refine (IH.out t X _ B ob n M f1 oa oc (by omega) (by omega) hf1' (HM1.out.keep ((Fr.refl F0 _).alloc _)) (HD.out.keep ((HW.sub HF.out).alloc _)) ((RX.out j X t GX.out T.out).keep ((HW.sub HF.out).alloc _))).mono ?_;rintro e w2 ⟨h2,ok,f2,rfl,hM2,hF2,hf21,hf20,hh0,hh1,hok⟩;have HM2:=hid hM2;have HF2:=hid hF2;have OK:=hid hok;clear hM2 hF2 hok
   cases ok with
   |false=>
    go_wp2;exact ⟨_,results_tmp2 rfl _ _ _,0,false,f2,rfl,HM2.out,(HF.out.alloc _).trans HF2.out,by omega,hf20,by omega,by omega,fun h=>by cases h⟩
   |true=>
    have hok:=OK.out rfl;go_wp2;go_roundw
    case rel=>
     refine ⟨j + 1,if g < h2 + 2 then h2 + 2 else g,f2,by omega,by go_num,rfl,HM2.out,(HF.out.alloc _).trans HF2.out,HF2.out.heap (fun hb=>NM.out _ (Nat.le_succ _) hb) ((Below.heap_alloc _ _ _ szx).trans BX.out),by omega,hok.1,by split <;>omega,by split <;>omega,HR.out.next T.out hh0 hok.2 (by split <;>omega) (by split <;>omega)⟩
    case measure=>simp [intOf];omega
  ·have hge: ¬(j:Int) < xlen:=by omega
   have hjl:j=xlen:=by omega
   go_wp2;exact ⟨_,results_tmp2 rfl _ _ _,g,true,f1,rfl,HM1.out,HF.out,by omega,by omega,hg0,hg1,fun _=>⟨hf1',xS.func hg0 hk10 (by rw [LT.out,<-hjl];exact HR.out)⟩⟩
end
section
variable {da:Option Addr}{dl dc:Nat}{D:zE}{ar:Nat->Nat}
theorem unmark (bo bc ob n oc c:Nat)(b:Bool)(u:FrameMode)(w:World)(ho:w.cell? ⟨bo,0,none⟩=some (.slice (some ⟨ob,0,none⟩) n oc))(hc:w.cell? ⟨bc,0,none⟩=some (.int .i64 c))(hlt:c < n)
 (hb:w.cell? ⟨ob,c,none⟩=some (.bool b)) (hf:w.frozen? ⟨ob,c,none⟩=false):
 CallsD Tryz.prog 66 #[.pointer (some ⟨bo,0,none⟩),.pointer (some ⟨bc,0,none⟩)] u w fun e u' w'=>u'=u/\(e= .returned (.tuple #[])/\w'=w.setCell ⟨ob,c,none⟩ (.bool false)):=by
 have hcn:(c:Int) < n:=by omega
 have s1:=World.block_lt_of_cell? _ _ ho;have s2:=World.block_lt_of_cell? _ _ hc;have s3:=World.block_lt_of_cell? _ _ hb;go_enter_d Tryz.func66,Tryz.ntmps66;go_wp2;go_end0;exact ⟨rfl,rfl⟩
theorem height_var (F:Nat)(ih:HStep da dl dc D ar F)(p:Nat)(x:TyV)(w:World)(B:MB)(ob n:Nat)(M:Mg)(fuel:Int)(oa:Option Addr)(oc:Nat)(hF:fuel<=F + 1)(hF2:F + 1<=20000)(hf2:2<=fuel)
 (hM:HRep ar dl w B ob n M fuel (.slice da dl dc) oa) (hd:DRep w (HA B ob) da dl D ar) (hx:HIn ar dl w (HA B ob) n x (.var p)):
 Calls Tryz.prog 48 #[.pointer (some ⟨B.m,0,none⟩),x.val,.slice oa n oc] w (HPost ar dl D B ob n (.slice da dl dc) oa w M fuel (.var p)):=by
 have NM:=hid (fun b (h:w.heap.size<=b) (hb:HW B ob b)=>(Nat.not_lt.2 h (hM.below b (by rcases hb with hb | hb;exact .inl (.inl hb);exact .inr hb)):False));have hp:=hx.h.var2;have hn0:0 < n:=by omega
 have kx:x.k=2:=hx.r.kind;have xn:x.n=p:=by obtain ⟨xs,_,_,_,sx⟩:=hx.r.flat;exact sx.2
 obtain ⟨ca,cc,va,vc,hu,hcv⟩:=hM.m;obtain ⟨rfl,rfl⟩:=hcv hn0;obtain ⟨c0,hc0,hc0'⟩:=hM.c hn0;obtain ⟨v0,hv0,hv0'⟩:=hM.v hn0;obtain ⟨ra,o0,ho0,ho0'⟩:=hM.o hn0;subst ra;have hP:=hM.lt p hp;obtain ⟨aP,lP,capP,gP,LP⟩:=hv0' (M.cls p) hP;obtain ⟨b0,gO⟩:=ho0' (M.cls p) hP;have ne:=hM.ne hn0;have NE:=hid ne;have szm:=hM.below B.m (.inl (.inl rfl));have szc:=hM.below B.c (.inl (.inr (.inl rfl)));have szv:=hM.below B.v (.inl (.inr (.inr rfl)))
 have szo:=hM.below ob (.inr rfl);have qm:=zA hu;have fm:=zC hu;have qc:=(zA hc0 p).trans (hc0' p hp);have qv:=(zA hv0 (M.cls p)).trans gP;have qo:=(zA ho0 (M.cls p)).trans gO;have fo:=zC ho0 (M.cls p);have lnp:=hM.len p hp;have LL:=hid LP;have hpn:(p:Int) < n:=by omega
 have hPn:((M.cls p:Nat):Int) < n:=by omega
 have llen:=LP.hlen;have HM:=hid hM;have HD:=hid hd;have IH:=hid ih;have GO:=hid gO;have HO:=hid ho0;have HU:=hid hu;have GV:=hid gP;clear hM hd hx ih hu hv0' ho0 ho0' gP gO LP hcv ne;obtain ⟨xk,xn,xc,xv,xa,xlen,xcap,xnm⟩:=x;unfold TyV.val at *;dsimp only at *;subst kx xn;have hle0: ¬(fuel - 1<=0):=by omega
 have hfu:fuel<=20000:=by omega
 have SC:=hid (show (w.setCell ⟨B.m,3,none⟩ (.int .i64 (fuel - 1))).heap.size=w.heap.size by simp [World.setCell]);have hmf: ∀(fn:Fn) (first cap:Array Value) (w:World),(Instr.makeFunc fn first cap).run Tryz.prog w= .ok (.func fn first cap) w:=fun _ _ _ _=>rfl
 obtain ⟨m1,m2,m3,m4,m5,m6⟩:=NE.out;have m4': ¬B.m=ob:=fun h=>m4 h.symm
 have HC:=hid hc0;have HV:=hid hv0;clear hc0 hv0;have FW:=hid ((((Fr.refl (HW B ob) w).setCell (p:=⟨B.m,3,none⟩) (.inl (.inl rfl)) (.int .i64 (fuel - 1))).alloc (.cells #[.int .i64 2,.int .i64 p,.int .i64 xc,.bool xv,.slice xa xlen xcap,.string xnm] 26)).alloc (.cells #[.slice (some ⟨ob,0,none⟩) n oc] 84));have FM:=hid ((((Fr.refl (fun b=>b=B.m) w).setCell (p:=⟨B.m,3,none⟩) (.inl rfl) (.int .i64 (fuel - 1))).alloc (.cells #[.int .i64 2,.int .i64 p,.int .i64 xc,.bool xv,.slice xa xlen xcap,.string xnm] 26)).alloc (.cells #[.slice (some ⟨ob,0,none⟩) n oc] 84))
 have HM0:=hid ((HM.out.setFuel (fuel - 1)).keep (((Fr.refl F0 _).alloc (.cells #[.int .i64 2,.int .i64 p,.int .i64 xc,.bool xv,.slice xa xlen xcap,.string xnm] 26)).alloc (.cells #[.slice (some ⟨ob,0,none⟩) n oc] 84)));have MB:=hid ((((Fr.refl F0 _).alloc (.cells #[.int .i64 2,.int .i64 p,.int .i64 xc,.bool xv,.slice xa xlen xcap,.string xnm] 26)).alloc (.cells #[.slice (some ⟨ob,0,none⟩) n oc] 84)).heap id (heap_setCell (a:=⟨B.m,3,none⟩) (v:= .int .i64 (fuel - 1)) HU.out rfl))
 have BT:=hid (show (((w.setCell ⟨B.m,3,none⟩ (.int .i64 (fuel - 1))).alloc (.cells #[.int .i64 2,.int .i64 p,.int .i64 xc,.bool xv,.slice xa xlen xcap,.string xnm] 26)).alloc (.cells #[.slice (some ⟨ob,0,none⟩) n oc] 84)).heap[w.heap.size]?=some (.cells #[.int .i64 2,.int .i64 p,.int .i64 xc,.bool xv,.slice xa xlen xcap,.string xnm] 26 (0,0)) from (Below.heap_alloc _ _ _ (by simp [World.setCell])).trans (by have h:=heap_alloc_new (w.setCell ⟨B.m,3,none⟩ (.int .i64 (fuel - 1))) (.cells #[.int .i64 2,.int .i64 p,.int .i64 xc,.bool xv,.slice xa xlen xcap,.string xnm] 26);rw [SC.out] at h;exact h))
 have BO:=hid (show (((w.setCell ⟨B.m,3,none⟩ (.int .i64 (fuel - 1))).alloc (.cells #[.int .i64 2,.int .i64 p,.int .i64 xc,.bool xv,.slice xa xlen xcap,.string xnm] 26)).alloc (.cells #[.slice (some ⟨ob,0,none⟩) n oc] 84)).heap[w.heap.size + 1]?=some (.cells #[.slice (some ⟨ob,0,none⟩) n oc] 84 (0,0)) by have h:=zS (w.setCell ⟨B.m,3,none⟩ (.int .i64 (fuel - 1))) (.cells #[.int .i64 2,.int .i64 p,.int .i64 xc,.bool xv,.slice xa xlen xcap,.string xnm] 26) (.cells #[.slice (some ⟨ob,0,none⟩) n oc] 84);rw [SC.out] at h;exact h)
 have WS:=hid (show (((w.setCell ⟨B.m,3,none⟩ (.int .i64 (fuel - 1))).alloc (.cells #[.int .i64 2,.int .i64 p,.int .i64 xc,.bool xv,.slice xa xlen xcap,.string xnm] 26)).alloc (.cells #[.slice (some ⟨ob,0,none⟩) n oc] 84)).heap.size=w.heap.size + 2 by simp [World.setCell]);go_enter_defers Tryz.func48,Tryz.ntmps48;go_wp2_with fail
 generalize (((w.setCell ⟨B.m,3,none⟩ (.int .i64 (fuel - 1))).alloc (.cells #[.int .i64 2,.int .i64 p,.int .i64 xc,.bool xv,.slice xa xlen xcap,.string xnm] 26)).alloc (.cells #[.slice (some ⟨ob,0,none⟩) n oc] 84))=WX at FW FM HM0 MB BT BO WS ⊢;have CB:=hid (FM.out.heap (b:=B.c) (Ne.symm m1) HC.out);have VB:=hid (FM.out.heap (b:=B.v) (Ne.symm m2) HV.out);have OB:=hid (FM.out.heap (b:=ob) m4 HO.out)
 have QC:=hid ((zA CB.out p).trans (hc0' p hp));have QO:=hid ((zA OB.out (M.cls p)).trans GO.out);have QV:=hid ((zA VB.out (M.cls p)).trans GV.out);clear qm qc qv qo fm fo hc0';refine zG (Fr F0 WX) [(0,true),(1,true),(2,true),(3,true),(4,true),(5,true),(6,true),(7,true),(8,false),(9,false)] [9] yE (by kernel_rfl) (by kernel_rfl) (by kernel_rfl) (by decide) ?_
 iterate 8
  (refine zH _ rfl (Fr.refl _ _).drew (fun w' hS=>by
   have q0:=zA (hS.heap (b:=B.m) id MB.out);have q1:=zA (hS.heap (b:=w.heap.size) id BT.out);have q2:=hS.cell (p:=⟨B.c,p,none⟩) id QC.out;have szu:=bl (q0 0);have szw:=bl (q1 0);have szz:=World.block_lt_of_cell? _ _ q2;clear hS;go_simp;rfl) ?_)
 go_simp;refine zB rfl ?_;go_wp2;refine And.intro (fun _=>(Fr.refl F0 WX).drew.alloc _) ?_;refine zB rfl ?_;go_wp2;refine And.intro (fun h=>absurd h (by decide)) ?_;refine zO (NoPanic.normal ?_);obtain ⟨WC,hWC⟩: ∃WC,WC=(WX.alloc (.cells #[.int .i64 (M.cls p)] 3)).drew:=⟨_,rfl⟩;have FC:=hid (show Fr F0 WX WC by rw [hWC];exact ((Fr.refl F0 WX).alloc _).drew);have BC:=hid (show WC.heap[WX.heap.size]?=some (.cells #[.int .i64 (M.cls p)] 3 (0,0)) by rw [hWC];exact heap_alloc_new WX _)
 have WS2:=hid (show WC.heap.size=w.heap.size + 3 by rw [hWC];have:=WS.out;simp [World.drew];omega);rw [<-hWC];clear hWC;have FMC:=hid (FM.out.trans FC.out.sub);have qm:=zA (FC.out.heap id MB.out);have qv:=FC.out.cell (p:=⟨B.v,M.cls p,none⟩) id QV.out;have qo:=FC.out.cell (p:=⟨ob,M.cls p,none⟩) id QO.out;have fo:=zC (FC.out.heap id OB.out) (M.cls p);have qb:=zA (FC.out.heap id BO.out);have qx:=zA BC.out
 have z1:B.m < WC.heap.size:=bl (qm 0);have z2:B.v < WC.heap.size:=World.block_lt_of_cell? _ _ qv;have z3:ob < WC.heap.size:=World.block_lt_of_cell? _ _ qo;have z4:w.heap.size + 1 < WC.heap.size:=bl (qb 0);have z5:WX.heap.size < WC.heap.size:=bl (qx 0);have HMC:=hid (HM0.out.keep FC.out);have FWC:=hid (FW.out.trans FC.out.sub);clear szm szc szv szo
 cases b0 with
 |true=>
  go_wp2;exact ⟨_,results_tmp2 rfl _ _ _,0,false,fuel - 1,rfl,HMC.out,FWC.out,by omega,by omega,by omega,by omega,fun h=>by cases h⟩
 |false=>
  have obw: ¬ob=w.heap.size + 1:=fun h=>NM.out _ (Nat.le_succ _) (.inr h.symm)
  have wob: ¬w.heap.size + 1=ob:=fun h=>obw h.symm
  have obx: ¬ob=WX.heap.size:=fun h=>NM.out _ (by have:=WS.out;omega:w.heap.size<=WX.heap.size) (.inr h.symm)
  have xob: ¬WX.heap.size=ob:=fun h=>obx h.symm
  go_wp2;go_quiet (fail);go_wp2;obtain ⟨WD,hWD⟩: ∃WD,WD=(WC.setCell ⟨ob,M.cls p,none⟩ (.bool true)).drewN nq:=⟨_,rfl⟩;have FD:=hid (show Fr (fun b=>b=ob) WC WD by rw [hWD];exact ((Fr.refl (fun b=>b=ob) WC).setCell (.inl rfl) _).drawn _);have HMD:=hid (show HRep ar dl WD B ob n M (fuel - 1) (.slice da dl dc) (some ⟨ob,0,none⟩) by rw [hWD];exact (HMC.out.setMark hn0 _ _).keep ((Fr.refl F0 _).drawn _))
  rw [<-hWD];clear hWD;have FWD:=hid (FWC.out.trans (FD.out.mono fun b _ hb=> .inr hb));have BOD:=hid (FD.out.heap wob (FC.out.heap id BO.out));have BCD:=hid (FD.out.heap xob BC.out);have LD:=hid (LL.out.keep (HW.sub FWD.out));have NX:=hid (fun (h:HW B ob WX.heap.size)=>NM.out _ (by have:=WS.out;omega:w.heap.size<=WX.heap.size) h);clear qm qv qo fo qb qx z1 z2 z3 z4 z5;obtain ⟨xs,hxs,hxl,hxy⟩:=LL.out.ex
  have XE:=hid hxs;have LX:=hid (show xs.length=lP by rw [hxl,llen]);have RX:=hid hxy;have LT:=hid llen;clear hxs hxl hxy
  go_loopw [11,14,15,73] (fun h _ _ i wr=> ∃(j:Nat) (g f':Int),j≤lP∧i= .int .i64 j∧h= .int .i64 g∧HRep ar dl wr B ob n M f' (.slice da dl dc) (some ⟨ob,0,none⟩)∧Fr (HW B ob) w wr∧
   wr.heap[w.heap.size + 1]?=some (.cells #[.slice (some ⟨ob,0,none⟩) n oc] 84 (0,0))/\wr.heap[WX.heap.size]?=some (.cells #[.int .i64 (M.cls p)] 3 (0,0))/\f'<=fuel - 1/\1<=f'/\0<=g/\g<=2 * (fuel - f')/\xS D M (M.vals (M.cls p)) 1 j g) (fun _ _ _ i _=>lP - (intOf i).toNat)
  case atStart=>exact ⟨0,0,fuel - 1,Nat.zero_le _,rfl,rfl,HMD.out,FWD.out,BOD.out,BCD.out,by omega,by omega,by omega,by omega,xS.start _ _ _ _ _⟩
  case round=>
   obtain ⟨j,g,f1,hj,rfl,rfl,hM1,hF1,hBX,hBC,hf1,hf1',hg0,hg1,hR1⟩:=hrel;have HM1:=hid hM1;have HF:=hid hF1;have BX:=hid hBX;have BCR:=hid hBC;have HR:=hid hR1;clear hM1 hF1 hBX hBC hR1;have qx:=zA BX.out;have szx:=bl (qx 0);dsimp only at szx;by_cases hlt:j < lP
   ·obtain ⟨X,b1,o1,gX,rfl,e1⟩:=XE.out.elem (show j < xs.length by rw [LX.out];omega)
    have e1:=e1.keep (HW.sub HF.out);obtain ⟨_,a0,a1,a2,a3,a4,a5⟩:=e1;have hb1:b1 < wr.heap.size:=World.block_lt_of_cell? _ _ a0;have hle:(j:Int) < lP:=by omega
    have GX:=hid gX;clear gX;obtain ⟨t,ht⟩: ∃t,(M.vals (M.cls p))[j]?=some t:=⟨(M.vals (M.cls p))[j]'(by rw [LT.out];omega),by simp⟩;have T:=hid ht;clear ht;go_wp2_with fail
    refine (IH.out t X _ B ob n M f1 _ oc (by omega) (by omega) hf1' (HM1.out.keep ((Fr.refl F0 _).alloc _)) (HD.out.keep ((HW.sub HF.out).alloc _)) ((RX.out j X t GX.out T.out).keep ((HW.sub HF.out).alloc _))).mono ?_;rintro e w2 ⟨h2,ok,f2,rfl,hM2,hF2,hf21,hf20,hh0,hh1,hok⟩;have HM2:=hid hM2;have HF2:=hid hF2;have OK:=hid hok;have BX2:=hid (hF2.heap (b:=w.heap.size + 1) (fun hb=>NM.out _ (Nat.le_succ _) hb) ((Below.heap_alloc _ _ _ szx).trans BX.out))
    have BC2:=hid (hF2.heap (b:=WX.heap.size) NX.out ((Below.heap_alloc _ _ _ (bl (zA BCR.out 0))).trans BCR.out));clear hM2 hF2 hok
    cases ok with
    |false=>
     go_wp2;obtain ⟨_,oc2,ho2,ho2'⟩:=HM2.out.o hn0;obtain ⟨b2,hb2⟩:=ho2' (M.cls p) hP;refine leaves_cons (f:=66) (args:= #[.pointer (some ⟨w.heap.size + 1,0,none⟩),.pointer (some ⟨WX.heap.size,0,none⟩)]) (by simp) (by simp [go_sem]) ?_;refine (unmark (w.heap.size + 1) WX.heap.size ob n oc (M.cls p) b2 .returning _ ((zA BX2.out 0).trans rfl) ((zA BC2.out 0).trans rfl) hP ((zA ho2 (M.cls p)).trans hb2) (zC ho2 (M.cls p))).mono ?_
     rintro e u' w'' ⟨rfl,rfl,rfl⟩;exact ⟨_,results_tmp2 rfl _ _ _,0,false,f2,rfl,HM2.out.setMark hn0 _ _,((HF.out.alloc _).trans HF2.out).setCell (.inl (.inr rfl)) _,by omega,hf20,by omega,by omega,fun h=>by cases h⟩
    |true=>
     have hok:=OK.out rfl;go_wp2;go_roundw
     case rel=>
      refine ⟨j + 1,if g < h2 + 1 then h2 + 1 else g,f2,by omega,by go_num,rfl,HM2.out,(HF.out.alloc _).trans HF2.out,BX2.out,BC2.out,by omega,hok.1,by split <;>omega,by split <;>omega,HR.out.next T.out hh0 hok.2 (by split <;>omega) (by split <;>omega)⟩
     case measure=>simp [intOf];omega
   ·have hge: ¬(j:Int) < lP:=by omega
    have hjl:j=lP:=by omega
    go_wp2;obtain ⟨_,oc2,ho2,ho2'⟩:=HM1.out.o hn0;obtain ⟨b2,hb2⟩:=ho2' (M.cls p) hP;refine leaves_cons (f:=66) (args:= #[.pointer (some ⟨w.heap.size + 1,0,none⟩),.pointer (some ⟨WX.heap.size,0,none⟩)]) (by simp) (by simp [go_sem]) ?_;refine (unmark (w.heap.size + 1) WX.heap.size ob n oc (M.cls p) b2 .returning _ ((zA BX.out 0).trans rfl) ((zA BCR.out 0).trans rfl) hP ((zA ho2 (M.cls p)).trans hb2) (zC ho2 (M.cls p))).mono ?_
    rintro e u' w'' ⟨rfl,rfl,rfl⟩;exact ⟨_,results_tmp2 rfl _ _ _,g,true,f1,rfl,HM1.out.setMark hn0 _ _,HF.out.setCell (.inl (.inr rfl)) _,by omega,by omega,hg0,hg1,fun _=>⟨hf1',xS.var hg0 (by rw [LT.out,<-hjl];exact HR.out)⟩⟩
end
end Go.Proofs.YtpekidjfbinekaaGreatDoor
