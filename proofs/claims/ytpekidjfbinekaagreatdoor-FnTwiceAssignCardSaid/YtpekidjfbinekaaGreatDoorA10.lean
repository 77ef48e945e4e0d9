/- W2, W3, W4 -/
import Derived.Deep.RegionHeld3
import Derived.Deep.AppendLies
import Derived.Test.YtpekidjfbinekaaGreatDoorA07
set_option maxRecDepth 100000
set_option maxHeartbeats 60000000
set_option linter.all false
namespace Go.Proofs.YtpekidjfbinekaaGreatDoor
open Go.RowKit Uni
open Classical in
noncomputable def same (s t:Tm):Bool:=decide (s=t)
theorem alikeB_kids {s t:Tm}(h:xQ s t=true):(kids s).length=(kids t).length:=by
 cases s <;>cases t <;>simp_all [xQ,kids]
open Classical in
theorem same_false {s t:Tm}(h:xQ s t=false):same s t=false:=by
 refine decide_eq_false fun e=> ?_
 subst e;cases s <;>simp [xQ] at h
open Classical in
theorem same_true {s t:Tm}(h:xQ s t=true)(hk:kids s=kids t):same s t=true:=by
 refine decide_eq_true ?_
 cases s <;>cases t <;>simp_all [xQ,kids]
open Classical in
theorem same_kid {s t:Tm}(h:kids s≠kids t):same s t=false:=by
 refine decide_eq_false fun e=> ?_
 subst e;exact h rfl
theorem wK (s:Tm): ∀(t:Tm)(x y:TyV)(w:World)(M:Nat->Prop),RT w M x s->RT w M y t->
 Calls Tryz.prog 26 #[x.val,y.val] w fun e w'=>e= .returned (.bool (same s t))/\Fr F0 w w':=by
 have key: ∀s:Tm,(∀u∈kids s,∀(t:Tm) (x y:TyV) (w:World) (M:Nat->Prop),RT w M x u->RT w M y t->
  Calls Tryz.prog 26 #[x.val,y.val] w fun e w'=>e= .returned (.bool (same u t))/\Fr F0 w w')-> ∀(t:Tm) (x y:TyV) (w:World) (M:Nat->Prop),RT w M x s->RT w M y t->
  Calls Tryz.prog 26 #[x.val,y.val] w fun e w'=>e= .returned (.bool (same s t))/\Fr F0 w w':=by
  intro s ih t x y w M hx hy;obtain ⟨xs,fx,nx,rx,_⟩:=hx.flat;obtain ⟨ys,fy,ny,ry,_⟩:=hy.flat;have AL:=hid (fun (w':World) (f:Fr M w w')=>alike_any _ _ _ _ w' M (hx.keep f) (hy.keep f));have IH:=hid ih;have RX:=hid rx;have RY:=hid ry;obtain ⟨hxe,lx,bx⟩:=fx;obtain ⟨hye,ly,_⟩:=fy;have HX:=hid hxe;have HY:=hid hye;have LX:=hid lx;have LY:=hid ly;have NX:=hid nx;have NY:=hid ny;have hb:x.len<=1954687338211:=bx.2.1
  clear ih rx ry hx hy hxe hye lx ly nx ny bx;obtain ⟨k,n,c,v,a,len,cap,nm⟩:=x;obtain ⟨k',n',c',v',a',len',cap',nm'⟩:=y;unfold TyV.val at *;dsimp only at *
  cases ha:xQ s t with
  |false=>
   have SF:=hid (same_false ha);have A2:=hid ha;clear ha;go_enter Tryz.func26,Tryz.ntmps26;go_wp2_with fail
   refine (AL.out _ (by repeat (first | exact Fr.refl _ _ | refine Fr.alloc ?_ _))).mono ?_;rintro e w1 ⟨rfl,hf⟩;have HF:=hid hf;clear hf;rw [A2.out];go_wp2;go_ret;exact ⟨yL SF.out.symm,Fr.trans (by repeat (first | exact Fr.refl _ _ | refine Fr.alloc ?_ _)) HF.out⟩
  |true=>
   have KL:=hid (alikeB_kids ha);have A2:=hid ha;clear ha;go_enter Tryz.func26,Tryz.ntmps26;go_wp2_with fail
   refine (AL.out _ (by repeat (first | exact Fr.refl _ _ | refine Fr.alloc ?_ _))).mono ?_;rintro e w1 ⟨rfl,hf⟩;rw [A2.out];have hs1:w.heap.size + 1 < w1.heap.size:=by have:=hf.size;simp at this;omega
   have cx:w1.cell? ⟨w.heap.size,4,none⟩=some (.slice a len cap):=hf.cell id (by simp);have cy:w1.cell? ⟨w.heap.size + 1,4,none⟩=some (.slice a' len' cap'):=hf.cell id (by simp);have HF:=hid (Fr.trans (M:=F0) (a:=w) (by repeat (first | exact Fr.refl _ _ | refine Fr.alloc ?_ _)) hf);clear hf;have CY:=hid cy;go_wp2;go_loopw [14] (fun i wr=> ∃k:Nat,k<=len/\i= .int .i64 k/\Fr F0 w1 wr/\(∀i:Nat,i < k->(kids s)[i]?=(kids t)[i]?)) (fun i _=>len - (intOf i).toNat)
   case atStart=>exact ⟨0,Nat.zero_le _,rfl,Fr.refl _ _,fun i hi=>by omega⟩
   case round=>
    obtain ⟨k,hk,rfl,hf,hn⟩:=hrel;clear cx cy;have HW:=hid hf;have HN:=hid hn;clear hn;by_cases hlt:k < len
    ·obtain ⟨X,b1,o1,gX,rfl,e1⟩:=HX.out.elem (show k < xs.length by rw [LX.out];exact hlt)
     obtain ⟨Y,b2,o2,gY,rfl,e2⟩:=HY.out.elem (show k < ys.length by rw [<-NY.out,<-KL.out,NX.out,LX.out];exact hlt);have hs2:w.heap.size + 1 < wr.heap.size:=by have:=hf.size;omega
     have cy:=hf.cell id CY.out;have FT:=hid (HF.out.trans hf);clear hf;have e1:=e1.keep FT.out.sub;have e2:=e2.keep FT.out.sub;obtain ⟨_,a0,a1,a2,a3,a4,a5⟩:=e1;obtain ⟨_,d0,d1,d2,d3,d4,d5⟩:=e2;have hb1:b1 < wr.heap.size:=World.block_lt_of_cell? _ _ a0;have hb2:b2 < wr.heap.size:=World.block_lt_of_cell? _ _ d5;have hle:(k:Int) < len:=by omega
     have hle2:(k:Int) < len':=by have:=LY.out;have:=NY.out;have:=KL.out;have:=NX.out;have:=LX.out;omega
     have GX:=hid gX;have GY:=hid gY;clear gX gY;go_wp2_with fail
     refine zP 6 (by kernel_rfl) ?_;simp only [List.take_succ_cons,List.take_zero,List.drop_succ_cons,List.drop_zero]
     repeat still_step
     refine wpStill_nil ?_;obtain ⟨u,hu⟩: ∃u,(kids s)[k]?=some u:=⟨(kids s)[k]'(by rw [NX.out,LX.out];exact hlt),by simp⟩;obtain ⟨u',hu'⟩: ∃u,(kids t)[k]?=some u:=⟨(kids t)[k]'(by rw [<-KL.out,NX.out,LX.out];exact hlt),by simp⟩;have RTX:=RX.out k X u GX.out hu;have RTY:=RY.out k Y u' GY.out hu';have U:=hid hu;have U':=hid hu';clear hu hu';have FW:=hid (show Fr F0 w _ from (FT.out.alloc (.cells #[.int .i64 X.k,.int .i64 X.n,.int .i64 X.c,.bool X.v,.slice X.a X.len X.cap,.string X.nm] 26)).drew)
     go_wp2_with fail
     have:=(IH.out u (List.mem_of_getElem? U.out) u' X Y _ M (RTX.keep FW.out.sub) (RTY.keep FW.out.sub));refine this.mono ?_;clear this;rintro e w2 ⟨rfl,hf2⟩;have F2:=hid hf2;clear hf2;have sm: ∀b,same u u'=b->Hid (same u u'=b):=fun _ h=>h
     cases hsm:same u u' with
     |false=>
      have SM:=sm _ hsm;clear hsm;go_wp2;go_ret;refine ⟨yL (same_kid fun e=> ?_).symm,FW.out.trans F2.out⟩;have h1:=U.out;rw [e,U'.out] at h1;cases h1
      have:=SM.out;simp [same] at this
     |true=>
      have SM:=sm _ hsm;clear hsm;go_wp2;go_roundw
      case rel=>
       refine ⟨k + 1,by omega,by go_num,?_,?_⟩
       ·exact (HW.out.alloc _).drew.trans F2.out
       ·intro i hi
        by_cases hik:i=k
        ·subst hik
         have:=SM.out;simp [same] at this;rw [U.out,U'.out,this]
        ·exact HN.out i (by omega)
      case measure=>simp [intOf];omega
    ·go_wp2
     go_ret;refine ⟨yL (same_true A2.out ?_).symm,HF.out.trans hf⟩;refine List.ext_getElem? fun i=> ?_
     by_cases hi:i < len
     ·exact HN.out i (by omega)
     ·rw [List.getElem?_eq_none (by rw [NX.out,LX.out];omega),List.getElem?_eq_none (by rw [<-KL.out,NX.out,LX.out];omega)]
 induction s using Tm.ind with
 |hv p=>exact key _ (fun u hu=>by cases hu)
 |hn f l ih=>exact key _ (fun u hu=>ih u hu)
theorem info26:(Tryz.prog.info? 26).map (fun i=>(i.zero,i.size,i.bytes))=some (some (.agg #[.int .i64 0,.int .i64 0,.int .i64 0,.bool false,.slice none 0 0,.string ⟨#[]⟩]),6,72):=by kernel_rfl
def zW (y:TyV):List Value:= [.int .i64 y.k,.int .i64 y.n,.int .i64 y.c,.bool y.v,.slice y.a y.len y.cap,.string y.nm]
theorem wY (rs:List TyV):(rs.flatMap zW).length=rs.length * 6:=by
 induction rs with
 |nil=>rfl
 |cons r rs ih=>rw [List.flatMap_cons,List.length_append,ih];simp [zW];omega
theorem flat6_get: ∀(rs:List TyV)(i j:Nat)(y:TyV),rs[i]?=some y->j < 6->(rs.flatMap zW)[i * 6 + j]?=(zW y)[j]?:=by
 intro rs
 induction rs with
 |nil=>intro i j y h;simp at h
 |cons r rs ih=>
  intro i j y h hj;rw [List.flatMap_cons]
  cases i with
  |zero=>
   simp at h;subst h;rw [List.getElem?_append_left (by simp [zW];omega)];simp
  |succ i=>
   rw [List.getElem?_append_right (by simp [zW];omega)];rw [<-ih i j y (by simpa using h) hj]
   congr 1
   simp [zW];omega
abbrev OwnT (w:World)(B:Nat)(v:Value)(rs:List TyV):Prop:=w.ownsRow B 26 6 v rs.length (rs.flatMap zW)
theorem OwnT.elems {w:World}{B:Nat}{v:Value}{rs:List TyV}(h:OwnT w B v rs)(M:Nat->Prop)(hM: ∀g,v.ownBlock=some g-> ¬M g):
 ∃a cap,v= .slice a rs.length cap/\xB w M a rs/\rs.length<=cap/\cap<=maxLen:=by
 have hc:=h;obtain ⟨hl,h | ⟨g,cap,cur,hv,hB,hg,hn,hm,hs,ht⟩⟩:=h
 ·obtain ⟨hv,hn⟩:=h
  have:rs= []:=List.eq_nil_of_length_eq_zero hn;subst this;exact ⟨none,0,hv,.inl rfl,Nat.le_refl _,Nat.zero_le _⟩
 ·refine ⟨_,cap,hv,.inr ⟨g,0,rfl,fun i y hy=> ?_⟩,hn,hm⟩
  have hcell: ∀j,j < 6->w.cell? ⟨g,0 + i * 6 + j,none⟩=(zW y)[j]?:=by
   intro j hj;have h1:=flat6_get rs i j y hy hj;have h2:=World.ownsRow.cells hc (g:=g) (by rw [hv];rfl) (i * 6 + j);have hadd:(⟨g,0,none⟩:Addr).add (i * 6 + j)=⟨g,0 + i * 6 + j,none⟩:=by unfold Addr.add;split <;>simp_all
   rw [hadd] at h2;rw [h1] at h2;have h3:((zW y)[j]?).isSome:=by simp [zW];omega
   obtain ⟨u,hu⟩:=Option.isSome_iff_exists.1 h3;rw [hu];exact h2 u hu
  exact ⟨hM g (by rw [hv];rfl),hcell 0 (by omega),hcell 1 (by omega),hcell 2 (by omega),hcell 3 (by omega),hcell 4 (by omega),hcell 5 (by omega)⟩
theorem RT.avoid {w:World}{M M':Nat->Prop}{x:TyV}{t:Tm}(h:RT w M x t)(hM: ∀b,M' b->M b\/w.heap.size<=b):RT w M' x t:=by
 induction h with
 |var x p h1 h2 h3 h4=>exact .var x p h1 h2 h3 h4
 |node x f xs ts h1 h2 h3 _ ih=>
  refine .node x f xs ts h1 h2 ?_ ih;rcases h3 with h3 | ⟨b,off,ha,h3⟩
  ·exact .inl h3
  ·refine .inr ⟨b,off,ha,fun i y hy=> ?_⟩
   have e:=h3 i y hy;refine ⟨fun hb=> ?_,e.c0,e.c1,e.c2,e.c3,e.c4,e.c5⟩;rcases hM b hb with h | h
   ·exact e.m h
   ·have:=World.block_lt_of_cell? _ _ e.c0
    simp at this;omega
theorem xB.avoid {w:World}{M M':Nat->Prop}{a:Option Addr}{xs:List TyV}(h3:xB w M a xs)(hM: ∀b,M' b->M b\/w.heap.size<=b):xB w M' a xs:=by
 rcases h3 with h3 | ⟨b,off,ha,h3⟩
 ·exact .inl h3
 ·refine .inr ⟨b,off,ha,fun i y hy=> ?_⟩
  have e:=h3 i y hy;refine ⟨fun hb=> ?_,e.c0,e.c1,e.c2,e.c3,e.c4,e.c5⟩;rcases hM b hb with h | h
  ·exact e.m h
  ·have:=World.block_lt_of_cell? _ _ e.c0
   simp at this;omega
theorem zV {w w':World}{M:Nat->Prop}{B:Nat}{e:TypeId}{size:Nat}{v:Value}{n:Nat}{xs:List Value}(h:w.ownsRow B e size v n xs)(f:Fr M w w')(hM: ∀g,v.ownBlock=some g-> ¬M g):w'.ownsRow B e size v n xs:=by
 refine ⟨h.1,?_⟩;rcases h.2 with hn | ⟨g,cap,cur,rfl,hb,hgg,rest⟩
 ·exact .inl hn
 ·exact .inr ⟨g,cap,cur,rfl,hb,by rw [f.block g (Array.getElem?_eq_some_iff.1 hgg).1 (hM g rfl)];exact hgg,rest⟩
def repl (k:Nat)(l:List Tm):Tm->Tm
 |.var p=>if k=2 then l.getD p (.var 0) else .var p
 |.node f ts=>if k=f.kind then l.getD f.n (.var 0) else .node f (ts.map (repl k l))
theorem repl_var (k:Nat)(l:List Tm)(p:Nat):repl k l (.var p)=if k=2 then l.getD p (.var 0) else .var p:=by simp [repl]
theorem repl_node (k:Nat)(l:List Tm)(f:Lab)(ts:List Tm):repl k l (.node f ts)=if k=f.kind then l.getD f.n (.var 0) else .node f (ts.map (repl k l)):=by simp [repl]
inductive Holes (k n:Nat):Tm->Prop
 |var (p:Nat):(k=2->p < n)->Holes k n (.var p)
 |node (f:Lab) (ts:List Tm):(k=f.kind->f.n < n)->(∀t∈ts,Holes k n t)->Holes k n (.node f ts)
theorem RT.rename {w:World}{M:Nat->Prop}{x:TyV}{t:Tm}(h:RT w M x t)(n:ByteArray):RT w M {x with nm:=n} t:=by
 cases h with
 |var _ p h1 h2 h3 h4=>exact .var _ p h1 h2 h3 h4
 |node _ f xs ts h1 h2 h3 h4=>exact .node _ f xs ts ⟨h1.k,h1.k10,h1.k2,h1.n,h1.c,h1.names,h1.len,h1.bound⟩ h2 h3 h4
theorem replaced_hole (k:Nat)(x:TyV)(i:Nat)(ls:List TyV)(us:List Tm)(u:Tm)(la:Option Addr)(ll lc:Nat)(w:World)(M:Nat->Prop)(hk:x.k=k)(hn:x.n=i)(hi:i < ll)
 (hls:xB w M la ls) (hll:ls.length=ll) (hus: ∀(i:Nat) (y:TyV) (u:Tm),ls[i]?=some y->us[i]?=some u->RT w M y u) (hu:us[i]?=some u):
 Calls Tryz.prog 33 #[x.val,.int .i64 k,.slice la ll lc] w fun e w'=> ∃r:TyV,e= .returned r.val/\r.nm=x.nm/\RT w' M r u/\Fr F0 w w':=by
 obtain ⟨Y,b,o,gY,rfl,e⟩:=hls.elem (show i < ls.length by omega);have hY:=hus i Y u gY hu;obtain ⟨_,a0,a1,a2,a3,a4,a5⟩:=e;have hb:=World.block_lt_of_cell? _ _ a0;have HY:=hid hY;clear hY hus hu gY hll hls;obtain ⟨xk,xn,xc,xv,xa,xlen,xcap,xnm⟩:=x;dsimp only at hk hn hb;subst hk hn;have hb1:b < w.heap.size + 1:=by omega
 have hlt:(i:Int) < (ll:Int):=by omega
 unfold TyV.val;dsimp only;go_enter Tryz.func33,Tryz.ntmps33;go_wp2;refine bodyPost_ret (v:= .agg #[.int .i64 Y.k,.int .i64 Y.n,.int .i64 Y.c,.bool Y.v,.slice Y.a Y.len Y.cap,.string xnm]) ?_ rfl ?_
 ·exact ret6 rfl rfl ((Below.heap_alloc _ _ _ (by simp)).trans (zS _ _ _))
 exact ⟨{Y with nm:=xnm},rfl,rfl,(HY.out.rename xnm).keep ((((Fr.refl _ w).alloc _).alloc _).alloc _),(((Fr.refl _ w).alloc _).alloc _).alloc _⟩
theorem replaced_leaf (k:Nat)(x:TyV)(w:World)(M:Nat->Prop)(la:Option Addr)(ll lc:Nat)(t:Tm)(hk:(x.k==(k:Int))=false)(hl:x.len=0)(hx: ∀w',RT w' M {x with a:=none,len:=0,cap:=0} t):
 Calls Tryz.prog 33 #[x.val,.int .i64 k,.slice la ll lc] w fun e w'=> ∃r:TyV,e= .returned r.val/\r.nm=x.nm/\RT w' M r t/\Fr F0 w w':=by
 have HX:=hid hx;clear hx;obtain ⟨xk,xn,xc,xv,xa,xlen,xcap,xnm⟩:=x;dsimp only at hk hl HX;subst hl;unfold TyV.val;dsimp only;go_enter Tryz.func33,Tryz.ntmps33;go_wp2;refine wp_loop_rounds 1 ?_;rw [rounds_succ];go_wp2;refine bodyPost_ret (v:= .agg #[.int .i64 xk,.int .i64 xn,.int .i64 xc,.bool xv,.slice none 0 0,.string xnm]) ?_ rfl ?_
 ·exact ret6 rfl rfl ((Below.heap_alloc _ _ _ (by simp)).trans (zS _ _ _))
 exact ⟨⟨xk,xn,xc,xv,none,0,0,xnm⟩,rfl,rfl,HX.out _,(((Fr.refl _ w).alloc _).alloc _).alloc _⟩
theorem replaced_any (k:Nat)(hk:k=2\/k=3)(s:Tm): ∀(ls:List TyV)(us:List Tm)(la:Option Addr)(ll lc:Nat)(x:TyV)(w:World)(M:Nat->Prop),
 RT w M x s->Holes k us.length s->xB w M la ls->ls.length=ll->us.length=ll->(∀(i:Nat) (y:TyV) (u:Tm),ls[i]?=some y->us[i]?=some u->RT w M y u)->(∀b,M b->b < w.heap.size)->
 Calls Tryz.prog 33 #[x.val,.int .i64 k,.slice la ll lc] w fun e w'=> ∃r:TyV,e= .returned r.val/\r.nm=x.nm/\RT w' M r (repl k us s)/\Fr F0 w w':=by
 induction s using Tm.ind with
 |hv p=>
  intro ls us la ll lc x w M hx hh hls hll hul hus hM;obtain ⟨xs,fx,nx,rx,sx⟩:=hx.flat;have e1:x.k=2:=sx.1;have e2:x.n=p:=sx.2;rcases hk with rfl | rfl
  ·have hp:p < us.length:=by cases hh with | var _ h=>exact h rfl
   have hup:us[p]?=some (repl 2 us (.var p)):=by rw [repl_var,if_pos rfl];simp [hp]
   exact replaced_hole 2 x p ls us _ la ll lc w M e1 e2 (by omega) hls hll hus hup
  ·have hl:x.len=0:=by have h1:0=xs.length:=nx;rw [<-fx.len];exact h1.symm
   have hr:repl 3 us (.var p)= .var p:=by rw [repl_var,if_neg (by omega)]
   rw [hr];exact replaced_leaf 3 x w M la ll lc _ (by rw [e1];rfl) hl (fun w'=> .var _ p e1 e2 rfl (Nat.zero_le _))
 |hn f ts ih=>
 intro ls us la ll lc x w M hx hh hls hll hul hus hM;obtain ⟨xs,fx,nx,rx,sx⟩:=hx.flat;by_cases hkf:k=f.kind
 ·have sx:Shape x f xs:=sx
  have hp:f.n < us.length:=by cases hh with | node _ _ h _=>exact h hkf
  have hup:us[f.n]?=some (repl k us (.node f ts)):=by rw [repl_node,if_pos hkf];simp [hp]
  have hn:x.n=f.n:=by
   have h1:=sx.n;have h2:=sx.k2;rw [if_pos (by omega)] at h1;exact h1
  exact replaced_hole k x f.n ls us _ la ll lc w M (by rw [sx.k,hkf]) hn (by omega) hls hll hus hup
 ·have IH:=hid ih;clear ih
  obtain ⟨hxe,lx,bx⟩:=fx;have HX:=hid hxe;have LX:=hid lx;have NX:=hid nx;have RX:=hid rx;have SX:=hid sx;have HH:=hid hh;have LS:=hid hls;have US:=hid hus;have LL:=hid hll;have UL:=hid hul;have HM:=hid hM;have hb:x.len<=1954687338211:=bx.2.1;have hkx:(x.k==(k:Int))=false:=by
   have:=sx.k;rw [this];simp;omega
  have KF:=hid hkf;clear hxe lx nx rx sx hx hh hls hus hll hul hM hkf bx;obtain ⟨xk,xn,xc,xv,xa,xlen,xcap,xnm⟩:=x;unfold TyV.val;dsimp only at *;go_enter Tryz.func33,Tryz.ntmps33;go_wp2;go_loopw [29] (fun i wr=> ∃(j:Nat) (rs:List TyV) (ov:Value),j<=xlen/\i= .int .i64 j/\rs.length=j/\Fr F0 w wr/\w.heap.size + 2 < wr.heap.size/\
   wr.heap[w.heap.size + 1 + 1]?=some (.cells #[.int .i64 xk,.int .i64 xn,.int .i64 xc,.bool xv,ov,.string xnm] 26 (0,0))/\
   wr.heap[w.heap.size + 1]?=some (.cells #[.int .i64 0,.int .i64 0,.int .i64 0,.bool false,.slice none 0 0,.string ⟨#[]⟩] 26 (0,0))/\
   OwnT wr (w.heap.size + 3) ov rs/\rs.map TyV.nm=(xs.take j).map TyV.nm/\
   (∀(i:Nat) (r:TyV) (t:Tm),rs[i]?=some r->ts[i]?=some t->RT wr (fun b=>M b\/(w.heap.size<=b/\b<=w.heap.size + 2)\/ov.ownBlock=some b) r (repl k us t)))
   (fun i _=>xlen - (intOf i).toNat)
  case atStart=>exact ⟨0,[],.slice none 0 0,Nat.zero_le _,rfl,rfl,by repeat (first | exact Fr.refl _ _ | refine Fr.alloc ?_ _),by simp,heap_three _ _ _ _,(Below.heap_alloc _ _ _ (by simp)).trans (zS _ _ _),World.ownsRow_nil _ _ _ _,rfl,fun i r t h=>by simp at h⟩
  case round=>
   obtain ⟨j,rs,ov,hj,rfl,hrs,hf,hsz,hB8,hR6,hown,hnm,hrt⟩:=hrel;have HF:=hid hf;have HRS:=hid hrs;have HOWN:=hid hown;have HNM:=hid hnm;have HRT:=hid hrt;have B8:=hid hB8;have R6:=hid hR6;clear hR6;clear hf hrs hown hnm hrt;by_cases hlt:j < xlen
   ·obtain ⟨X,b1,o1,gX,rfl,e1⟩:=HX.out.elem (show j < xs.length by rw [LX.out];exact hlt)
    have e1:=e1.keep HF.out.sub;obtain ⟨_,a0,a1,a2,a3,a4,a5⟩:=e1;have hb1:b1 < wr.heap.size:=World.block_lt_of_cell? _ _ a0;have hle:(j:Int) < xlen:=by omega
    have GX:=hid gX;clear gX;have b8:wr.cell? ⟨w.heap.size + 1 + 1,4,none⟩=some ov:=by simp [World.cell?,hB8]
    clear hB8;have hlen1:(rs.flatMap zW).length=j * 6:=by rw [wY,HRS.out]
    have HL1:=hid hlen1;clear hlen1;obtain ⟨i0,hi0,hz0,hz1,hz2⟩:=info_parts info26;obtain ⟨t,ht⟩: ∃t,ts[j]?=some t:=⟨ts[j]'(by have:=NX.out;simp [kids] at this;rw [this,LX.out];exact hlt),by simp⟩;have T:=hid ht;have hMb: ∀b,M b\/(w.heap.size<=b/\b<=w.heap.size + 2)\/ov.ownBlock=some b->(M b\/w.heap.size<=b)/\b < wr.heap.size:=by
     intro b hb;rcases hb with hb | hb | hb
     ·have:=HM.out b hb;have:=HF.out.size;exact ⟨.inl hb,by omega⟩
     ·exact ⟨.inr (by omega),by omega⟩
     ·have:=World.ownsRow.lt HOWN.out b hb;exact ⟨.inr (by omega),this.2⟩
    have CALL: ∀(w':World),Fr F0 wr w'->Calls Tryz.prog 33 #[.agg #[.int .i64 X.k,.int .i64 X.n,.int .i64 X.c,.bool X.v,.slice X.a X.len X.cap,.string X.nm],.int .i64 k,.slice la ll lc] w' fun e w''=>
     ∃r:TyV,e= .returned (.agg #[.int .i64 r.k,.int .i64 r.n,.int .i64 r.c,.bool r.v,.slice r.a r.len r.cap,.string r.nm])/\r.nm=X.nm/\
      RT w'' (fun b=>M b\/(w.heap.size<=b/\b<=w.heap.size + 2)\/ov.ownBlock=some b) r (repl k us t)/\Fr F0 w' w'':=by
     intro w' fr;have F:=HF.out.trans fr;refine IH.out t (List.mem_of_getElem? ht) ls us la ll lc X w' _ (((RX.out j X t GX.out ht).avoid fun b hb=>(hMb b hb).1).keep F.sub) ?_
      ((LS.out.avoid fun b hb=>(hMb b hb).1).keep F.sub) LL.out UL.out (fun i y u hy hu=>((US.out i y u hy hu).avoid fun b hb=>(hMb b hb).1).keep F.sub) (fun b hb=>Nat.lt_of_lt_of_le (hMb b hb).2 fr.size)
     cases HH.out with
     |node _ _ _ h=>exact h t (List.mem_of_getElem? ht)
    have OB:=hid (World.ownsRow.lt HOWN.out);have N63:=hid (show rs.length + 1<=maxLen by have:=HRS.out;unfold maxLen;omega);have N72:=hid (show (rs.length + 1) * 72<=140737488355328 by have:=HRS.out;omega);have CA:=hid CALL;have MB:=hid hMb;clear CALL hMb ht;go_wp2_with fail
    have e0:(wr.alloc (.cells #[.int .i64 X.k,.int .i64 X.n,.int .i64 X.c,.bool X.v,.slice X.a X.len X.cap,.string X.nm] 26)).heap[wr.heap.size]?=some (.cells #[.int .i64 X.k,.int .i64 X.n,.int .i64 X.c,.bool X.v,.slice X.a X.len X.cap,.string X.nm] 26 (0,0)):=heap_alloc_new _ _;have B8':=hid (show (wr.alloc (.cells #[.int .i64 X.k,.int .i64 X.n,.int .i64 X.c,.bool X.v,.slice X.a X.len X.cap,.string X.nm] 26)).heap[w.heap.size + 1 + 1]?=_ from (Below.heap_alloc _ _ _ (by omega)).trans B8.out)
    have E0:=hid e0;clear e0;have FRW:=hid ((Fr.refl F0 wr).alloc (.cells #[.int .i64 X.k,.int .i64 X.n,.int .i64 X.c,.bool X.v,.slice X.a X.len X.cap,.string X.nm] 26));generalize hWX:wr.alloc (.cells #[.int .i64 X.k,.int .i64 X.n,.int .i64 X.c,.bool X.v,.slice X.a X.len X.cap,.string X.nm] 26)=WX;rw [hWX] at E0 B8' FRW;clear hWX;refine zG (Fr (fun b=>ov.ownBlock=some b) WX)
     [(0,true),(1,true),(2,true),(3,true),(4,true),(5,false),(6,false),(7,false),(8,false),(9,false)] [9] yE (by kernel_rfl) (by kernel_rfl) (by kernel_rfl) (by decide) ?_
    have nb8: ¬ov.ownBlock=some (w.heap.size + 1 + 1):=fun h=>by have:=(OB.out _ h).1;omega
    have nbe: ¬ov.ownBlock=some wr.heap.size:=fun h=>by have:=(OB.out _ h).2;omega
    have NB8:=hid nb8;have NBE:=hid nbe;clear nb8 nbe
    iterate 5
     (refine zH _ rfl (Fr.refl _ _).drew (fun w' hS=>by
      have q0:=zA (hS.heap NB8.out B8'.out);have q1:=zA (hS.heap NBE.out E0.out);clear hS;go_simp;rfl) ?_)
    go_simp;refine zB rfl ?_;go_wp2_with fail
    refine (CA.out _ FRW.out.drew).mono ?_;rintro e w2 ⟨r,rfl,hrn,hrr,hf2⟩;have HRN:=hid hrn;clear hrn;have HRR:=hid hrr;have HF2:=hid hf2;clear hrr hf2;go_wp2;refine And.intro (fun _=>(Fr.refl _ _).drew.trans HF2.out.sub) ?_;refine zB rfl ?_;go_wp2;refine And.intro (fun _=>((Fr.refl _ _).drew.trans HF2.out.sub).alloc _) ?_;refine zB rfl ?_;have OW2:=hid ((zV HOWN.out (FRW.out.drew.trans HF2.out) (fun _ _ h=>h)).alloc (.cells #[.int .i64 r.k,.int .i64 r.n,.int .i64 r.c,.bool r.v,.slice r.a r.len r.cap,.string r.nm] 26))
    have SZ:=hid (show w.heap.size + 3<=(w2.alloc (.cells #[.int .i64 r.k,.int .i64 r.n,.int .i64 r.c,.bool r.v,.slice r.a r.len r.cap,.string r.nm] 26)).heap.size by have:=(FRW.out.drew.trans HF2.out).size;simp;omega);refine wpList_append_lies _ rfl _ _ 24 rfl (w.heap.size + 3) 26 i0 _ 6 72 Tryz.underlying24 hi0 hz0 hz1 hz2 rfl (by omega) ov rs.length (rs.flatMap zW) (by rfl) OW2.out ⟨w2.heap.size,0,none⟩ 1 1 (zW r) (by rfl) (by rfl) (World.news_of_block (cs:= #[.int .i64 r.k,.int .i64 r.n,.int .i64 r.c,.bool r.v,.slice r.a r.len r.cap,.string r.nm]) (t:=26) (fr:=(0,0)) (heap_alloc_new w2 _)) (by simp [zW,Value.oneCell']) (by omega) N63.out N72.out SZ.out (w2.heap.size + 1) (by simp) ?_
    intro gg gcap w3 hown3 hgrow hat hlt3;have HAT:=hid hat;clear hat hlt3;have FW3:=hid ((((Fr.refl (fun b=>ov.ownBlock=some b) _).drew.trans HF2.out.sub).alloc (.cells #[.int .i64 r.k,.int .i64 r.n,.int .i64 r.c,.bool r.v,.slice r.a r.len r.cap,.string r.nm] 26)).trans (Fr.of_grown hgrow));have OW3:=hid hown3;have HG:=hid hgrow;clear hown3 hgrow;go_wp2;refine And.intro (fun _=>FW3.out) ?_;refine zB rfl ?_
    go_wp2;refine And.intro (fun _=>FW3.out) ?_;refine zB rfl ?_;have q3:=zA (FW3.out.heap NB8.out B8'.out) 4;have f3:=zC (FW3.out.heap NB8.out B8'.out) 4;go_wp2;refine And.intro (fun h=>absurd h (by decide)) ?_;refine zO (NoPanic.normal ?_);go_wp2;have hlr:(rs ++ [r]).length=rs.length + 1:=by simp
    have OW':OwnT w3 (w.heap.size + 3) (.slice (some ⟨gg,0,none⟩) (rs.length + 1) gcap) (rs ++ [r]):=by
     unfold OwnT;rw [hlr,List.flatMap_append];exact OW3.out
    have FWR:=hid (show Fr F0 w w3 from (HF.out.trans FRW.out).transNew FW3.out fun x hx=> .inr (by have:=(OB.out x hx).1;omega));have FWR2:=hid (show Fr (fun b=>ov.ownBlock=some b) wr w3 from FRW.out.sub.trans FW3.out);have B83:=hid (FW3.out.heap NB8.out B8'.out);have XT:xs.take (j + 1)=xs.take j ++ [X]:=by
     rw [List.take_succ_eq_append_getElem (by rw [LX.out];exact hlt)]
     congr 2
     have:=GX.out;rw [List.getElem?_eq_getElem (by rw [LX.out];exact hlt)] at this;exact Option.some.inj this
    have XT':=hid XT;have WRSZ:=hid (show wr.heap.size<=w2.heap.size from (FRW.out.drew.trans HF2.out).size);clear XT hlr;go_roundw
    case rel=>
     have ha8:(⟨w.heap.size + 1 + 1,4,none⟩:Addr).block=w.heap.size + 1 + 1:=rfl;refine ⟨j + 1,rs ++ [r],.slice (some ⟨gg,0,none⟩) (rs.length + 1) gcap,by omega,by go_num,by simp [HRS.out],FWR.out.setCell (.inr (show w.heap.size<=w.heap.size + 1 + 1 by omega)) _,?_,?_,?_,?_,?_,?_⟩
     ·have:=FWR2.out.size;simp [World.setCell];omega
     ·exact heap_setCell (a:=⟨w.heap.size + 1 + 1,4,none⟩) B83.out rfl
     ·have nr6: ¬ov.ownBlock=some (w.heap.size + 1):=fun h=>by have:=(OB.out _ h).1;omega
      rw [Below.heap_setCell _ _ _ _ (by show w.heap.size + 1≠w.heap.size + 1 + 1;omega)];exact FWR2.out.heap nr6 R6.out
     ·exact ownsRow_setCell_below OW' (by simp) _
     ·rw [XT'.out,List.map_append,List.map_append,HNM.out,List.map_cons,List.map_cons,HRN.out]
     ·intro i r' t' hr' ht'
      have FS:Fr (fun b=>M b\/(w.heap.size<=b/\b<=w.heap.size + 2)\/ov.ownBlock=some b) wr (w3.setCell ⟨w.heap.size + 1 + 1,4,none⟩ (.slice (some ⟨gg,0,none⟩) (rs.length + 1) gcap)):=
       (FWR2.out.mono fun _ _ h=> .inr (.inr h)).setCell (.inl (.inr (.inl (show w.heap.size<=w.heap.size + 1 + 1/\w.heap.size + 1 + 1<=w.heap.size + 2 by omega)))) _
      rw [List.getElem?_append] at hr'
      split at hr'
      ·refine ((((HRT.out i r' t' hr' ht').avoid (M':=fun b=>(M b\/(w.heap.size<=b/\b<=w.heap.size + 2)\/ov.ownBlock=some b)\/wr.heap.size<=b) fun b hb=>hb).keep (FS.mono fun _ _ h=> .inl h))).mono fun b hb=> ?_
       rcases hb with hb | hb | hb
       ·exact .inl (.inl hb)
       ·exact .inl (.inr (.inl hb))
       ·have hgb:gg=b:=by simpa [Value.ownBlock] using hb
        subst hgb;rcases HAT.out with h | h
        ·exact .inl (.inr (.inr h))
        ·exact .inr (by have:=WRSZ.out;omega)
      ·rename_i hni
       have hir:i=rs.length/\r'=r:=by
        rw [List.getElem?_cons] at hr'
        split at hr'
        ·rename_i h0;cases hr';exact ⟨by omega,rfl⟩
        ·simp at hr'
       obtain ⟨rfl,rfl⟩:=hir;have htt:t'=t:=by rw [HRS.out,T.out] at ht';exact (Option.some.inj ht').symm
       subst htt;have FS2:Fr (fun b=>M b\/(w.heap.size<=b/\b<=w.heap.size + 2)\/ov.ownBlock=some b) w2 (w3.setCell ⟨w.heap.size + 1 + 1,4,none⟩ (.slice (some ⟨gg,0,none⟩) (rs.length + 1) gcap)):=
        ((((Fr.refl _ w2).alloc _).trans ((Fr.of_grown HG.out).mono fun _ _ h=> .inr (.inr h)))).setCell (.inl (.inr (.inl (show w.heap.size<=w.heap.size + 1 + 1/\w.heap.size + 1 + 1<=w.heap.size + 2 by omega)))) _
       refine ((HRR.out.avoid (M':=fun b=>(M b\/(w.heap.size<=b/\b<=w.heap.size + 2)\/ov.ownBlock=some b)\/w2.heap.size<=b) fun b hb=>hb).keep (FS2.mono fun _ _ h=> .inl h)).mono fun b hb=> ?_
       rcases hb with hb | hb | hb
       ·exact .inl (.inl hb)
       ·exact .inl (.inr (.inl hb))
       ·have hgb:gg=b:=by simpa [Value.ownBlock] using hb
        subst hgb;rcases HAT.out with h | h
        ·exact .inl (.inr (.inr h))
        ·exact .inr (by omega)
    case measure=>simp [intOf];omega
   ·have hj':j=xlen:=by omega
    have HJ:=hid hj';obtain ⟨oa,oc,hov,hel,hcap⟩:=HOWN.out.elems (fun b=>M b\/(w.heap.size<=b/\b<=w.heap.size + 2)) (fun g hg hm=>by have:=(World.ownsRow.lt HOWN.out g hg).1;rcases hm with hm | hm;have:=HM.out g hm;omega;omega);have HOV:=hid hov;have HEL:=hid hel;have HCAP:=hid hcap;clear hel hcap hB8 hj';subst hov;have q8:=zA B8.out;have q6:=zA R6.out;have f6:=zC R6.out;go_wp2;refine bodyPost_ret (v:= .agg #[.int .i64 xk,.int .i64 xn,.int .i64 xc,.bool xv,.slice oa rs.length oc,.string xnm]) ?_ rfl ?_
    ·exact ret6 rfl rfl (heap_set6 R6.out _ _ _ _ _ _)
    refine ⟨⟨xk,xn,xc,xv,oa,rs.length,oc,xnm⟩,rfl,rfl,?_,?_⟩
    rotate_left
    ·exact HF.out.set6 (.inr (Nat.le_succ _)) _ _ _ _ _ _
    have hS:Shape ⟨xk,xn,xc,xv,xa,xlen,xcap,xnm⟩ f xs:=SX.out;have hR:repl k us (.node f ts)= .node f (ts.map (repl k us)):=by rw [repl_node,if_neg KF.out]
    rw [hR];have hnames:rs.map TyV.nm=xs.map TyV.nm:=by rw [HNM.out,List.take_of_length_le (by rw [LX.out];have:=HJ.out;omega)]
    refine .node _ f rs _ ⟨hS.k,hS.k10,hS.k2,hS.n,hS.c,?_,rfl,?_⟩ (by rw [List.length_map];have:=NX.out;simp [kids] at this;rw [this,LX.out,HRS.out];exact HJ.out.symm) ?_ ?_
    ·rw [hS.names]
     have:xs.map (fun y=>y.nm.toList)=rs.map (fun y=>y.nm.toList):=by
      have h:=congrArg (List.map ByteArray.toList) hnames;rw [List.map_map,List.map_map] at h;exact h.symm
     rw [this]
    ·have h1:=HCAP.out;have h2:=HRS.out;exact ⟨h1.1,by show rs.length<=_;omega,h1.2⟩
    ·have F6:Fr (fun b=>M b\/(w.heap.size<=b/\b<=w.heap.size + 2)) wr _:=(Fr.refl _ wr).set6 (b:=w.heap.size + 1) (.inl (.inr ⟨by omega,by omega⟩)) (.int .i64 xk) (.int .i64 xn) (.int .i64 xc) (.bool xv) (.slice oa rs.length oc) (.string xnm)
     exact (HEL.out.keep F6).avoid fun b hb=> .inl (.inl hb)
    ·have F6:Fr (fun b=>M b\/(w.heap.size<=b/\b<=w.heap.size + 2)\/(Value.slice oa rs.length oc).ownBlock=some b) wr _:=(Fr.refl _ wr).set6 (b:=w.heap.size + 1) (.inl (.inr (.inl ⟨by omega,by omega⟩))) (.int .i64 xk) (.int .i64 xn) (.int .i64 xc) (.bool xv) (.slice oa rs.length oc) (.string xnm)
     intro i y u hy hu;rw [List.getElem?_map] at hu
     cases htt:ts[i]? with
     |none=>rw [htt] at hu;cases hu
     |some t=>
      rw [htt] at hu;cases hu
      exact ((HRT.out i y t hy htt).keep F6).mono fun b hb=> .inl hb
structure UB where
 u:Nat
 j:Nat
 k:Nat
 p:Nat
 po:Option Obj
def UB.M (B:UB):Nat->Prop:=fun b=>b=B.u\/b=B.j\/b=B.k\/b=B.p
def KnownAt (w:World)(M:Nat->Prop)(c:Array Value)(p:Nat)(o:Option Tm):Prop:=
 ∃y:TyV,c[p * 7]?=some (.bool o.isSome)/\c[p * 7 + 1]?=some (.int .i64 y.k)/\c[p * 7 + 1 + 1]?=some (.int .i64 y.n)/\c[p * 7 + 1 + 2]?=some (.int .i64 y.c)/\c[p * 7 + 1 + 3]?=some (.bool y.v)/\
  c[p * 7 + 1 + 4]?=some (.slice y.a y.len y.cap)/\c[p * 7 + 1 + 5]?=some (.string y.nm)/\ ∀t,o=some t->RT w M y t
structure URep (w:World) (B:UB) (n:Nat) (s:St) (dv pv:Value) (sil:Bool):Prop where
 u: ∃ja cj ka ck,w.heap[B.u]?=some (.cells #[dv,.slice ja n cj,.slice ka n ck,pv,.bool sil] 37 (0,0))/\(0 < n->ja=some ⟨B.j,0,none⟩/\ka=some ⟨B.k,0,none⟩)
 j:0 < n-> ∃c,w.heap[B.j]?=some (.cells c 3 (0,0))/\ ∀p,p < n->c[p]?=some (.int .i64 (s.j p))
 k:0 < n-> ∃c,w.heap[B.k]?=some (.cells c 45 (0,0))/\ ∀p,p < n->KnownAt w B.M c p (s.v p)
 lt: ∀p,p < n->s.j p < n
 holes: ∀p t,p < n->s.v p=some t->Holes 2 n t
 n8:n<=8
 ne:0 < n->B.u≠B.j/\B.u≠B.k/\B.j≠B.k
 size:B.u < w.heap.size/\(0 < n->B.j < w.heap.size/\B.k < w.heap.size)
 pr: ∀o,B.po=some o->w.heap[B.p]?=some o/\B.p≠B.u/\(0 < n->B.p≠B.j/\B.p≠B.k)
theorem Holes.kid {k n:Nat}{f:Lab}{ts:List Tm}(h:Holes k n (.node f ts)){t:Tm}(ht:t∈ts):Holes k n t:=by
 cases h with | node _ _ _ h=>exact h t ht
theorem Holes.var2 {n p:Nat}(h:Holes 2 n (.var p)):p < n:=by
 cases h with | var _ h=>exact h rfl
theorem URep.keep {w w':World}{B:UB}{n:Nat}{s:St}{dv pv:Value}{sil:Bool}(h:URep w B n s dv pv sil)(f:Fr F0 w w'):URep w' B n s dv pv sil:=by
 obtain ⟨hu,hj,hk,h1,h2,h3,h4,h5,h6⟩:=h;refine ⟨?_,fun hn=> ?_,fun hn=> ?_,h1,h2,h3,h4,⟨Nat.lt_of_lt_of_le h5.1 f.size,fun hn=>⟨Nat.lt_of_lt_of_le (h5.2 hn).1 f.size,Nat.lt_of_lt_of_le (h5.2 hn).2 f.size⟩⟩,fun o ho=>⟨f.heap id (h6 o ho).1,(h6 o ho).2⟩⟩
 ·obtain ⟨ja,cj,ka,ck,h,h'⟩:=hu
  exact ⟨ja,cj,ka,ck,f.heap id h,h'⟩
 ·obtain ⟨c,h,h'⟩:=hj hn
  exact ⟨c,f.heap id h,h'⟩
 ·obtain ⟨c,h,h'⟩:=hk hn
  refine ⟨c,f.heap id h,fun p hp=> ?_⟩;obtain ⟨y,a0,a1,a2,a3,a4,a5,a6,a7⟩:=h' p hp;exact ⟨y,a0,a1,a2,a3,a4,a5,a6,fun t ht=>(a7 t ht).keep f.sub⟩
theorem vA (N:Nat): ∀(t:Tm)(x:TyV)(P:Nat)(b:Bool)(w:World)(B:UB)(n:Nat)(s:St)(dv pv:Value)(sil:Bool),xI N s t P=some b->URep w B n s dv pv sil->RT w B.M x t->Holes 2 n t->
 Calls Tryz.prog 67 #[.pointer (some ⟨B.u,0,none⟩),x.val,.int .i64 P] w fun e w'=>e= .returned (.bool b)/\Fr F0 w w':=by
 induction N with
 |zero=>intro t x P b w B n s dv pv sil h;cases h
 |succ N ih=>
 intro t x P b w B n s dv pv sil hc hU hx hh;obtain ⟨xs,fx,nx,rx,sx⟩:=hx.flat;have IH:=hid ih;clear ih;have HU:=hid hU
 cases t with
 |var q=>
  have e1:x.k=2:=sx.1;have e2:x.n=q:=sx.2;have hq:=hh.var2;obtain ⟨ja,cj,ka,ck,hu,hjk⟩:=hU.u;obtain ⟨rfl,rfl⟩:=hjk (by omega);obtain ⟨c1,hj,hj'⟩:=hU.j (by omega);obtain ⟨c2,hk,hk'⟩:=hU.k (by omega);have hjq:=hj' q hq;obtain ⟨y,a0,a1,a2,a3,a4,a5,a6,a7⟩:=hk' (s.j q) (hU.lt q hq);have qu:=zA hu;have qj:=(zA hj q).trans hjq;have qk:=fun i=>zA hk i
  have k0:=(qk _).trans a0;have k1:=(qk _).trans a1;have k2:=(qk _).trans a2;have k3:=(qk _).trans a3;have k4:=(qk _).trans a4;have k5:=(qk _).trans a5;have k6:=(qk _).trans a6;have u1:=qu 1;have u2:=qu 2;have sz:=hU.size;have szu:=sz.1;have szj:=(sz.2 (by omega)).1;have szk:=(sz.2 (by omega)).2;have hqn:(q:Int) < n:=by omega
  have hjn:(s.j q:Int) < n:=by have:=hU.lt q hq;omega
  clear qu qk hu hj hk hj' hk' hjq a0 a1 a2 a3 a4 a5 a6 sz hU rx nx sx fx;obtain ⟨xk,xn,xc,xv,xa,xlen,xcap,xnm⟩:=x;dsimp only at e1 e2;subst e1 e2;unfold TyV.val;dsimp only;rw [xI] at hc;by_cases hP:s.j q=P
  ·rw [if_pos hP] at hc
   cases hc
   subst hP;have f1:((s.j q:Int)==s.j q)=true:=by simp
   go_enter Tryz.func67,Tryz.ntmps67;go_wp2;go_quiet (fail);go_wp2;go_ret;exact ⟨rfl,(((Fr.refl _ w).alloc _).drawn _)⟩
  ·rw [if_neg hP] at hc
   have f1:((s.j q:Int)==P)=false:=by simp;omega
   have HC:=hid hc;clear hc
   cases hv:s.v (s.j q) with
   |none=>
    have HC2:=HC.out;rw [hv] at HC2;have hbf:b=false:=(Option.some.inj HC2).symm;clear HC2 HC;subst hbf;replace k0:w.cell? ⟨B.k,s.j q * 7,none⟩=some (.bool false):=by rw [k0,hv];rfl
    clear hv;go_enter Tryz.func67,Tryz.ntmps67;go_wp2;go_quiet (fail);go_wp2;go_ret;exact ⟨rfl,(((Fr.refl _ w).alloc _).drawn _)⟩
   |some u=>
    have HC2:=HC.out;rw [hv] at HC2;have HC3:=hid HC2;clear HC2;replace k0:w.cell? ⟨B.k,s.j q * 7,none⟩=some (.bool true):=by rw [k0,hv];rfl
    have HA:=hid (a7 u hv);have HO:=hid ((HU.out).holes _ u (HU.out.lt q hq) hv);clear hv a7;go_enter Tryz.func67,Tryz.ntmps67;go_wp2;go_quiet (fail);go_wp2_with fail
    have F:=((Fr.refl F0 w).alloc (.cells #[.int .i64 2,.int .i64 q,.int .i64 xc,.bool xv,.slice xa xlen xcap,.string xnm] 26));refine (IH.out u y P b _ B n s dv pv sil HC3.out (HU.out.keep (F.drawn _)) (HA.out.keep (F.drawn _).sub) HO.out).mono ?_;rintro e w2 ⟨rfl,hf2⟩;have HF2:=hid hf2;clear hf2;go_wp2;go_ret;exact ⟨rfl,(F.drawn _).trans HF2.out⟩
 |node f ts=>
  have sx:Shape x f xs:=sx;have hk2:(x.k==2)=false:=by have:=sx.k;have:=sx.k2;simp;omega
  rw [xI] at hc;obtain ⟨hxe,lx,bx⟩:=fx;have hb:=bx.2.1;have HX:=hid hxe;have LX:=hid lx;have NX:=hid nx;have RX:=hid rx;have HH:=hid hh;have HC:=hid hc;clear hxe lx nx rx sx hx hh hc bx hU;obtain ⟨xk,xn,xc,xv,xa,xlen,xcap,xnm⟩:=x;unfold TyV.val;dsimp only at *;go_enter Tryz.func67,Tryz.ntmps67;go_wp2;go_loopw [50] (fun i wr=> ∃j:Nat,j<=xlen/\i= .int .i64 j/\Fr F0 w wr/\orL ((ts.drop j).map fun a=>xI N s a P)=some b) (fun i _=>xlen - (intOf i).toNat)
  case atStart=>exact ⟨0,Nat.zero_le _,rfl,by repeat (first | exact Fr.refl _ _ | refine Fr.alloc ?_ _),HC.out⟩
  case round=>
   obtain ⟨j,hj,rfl,hf,hor⟩:=hrel;have HF:=hid hf;have HO:=hid hor;clear hf hor;by_cases hlt:j < xlen
   ·obtain ⟨X,b1,o1,gX,rfl,e1⟩:=HX.out.elem (show j < xs.length by rw [LX.out];exact hlt)
    have e1:=e1.keep HF.out.sub;obtain ⟨_,a0,a1,a2,a3,a4,a5⟩:=e1;have hb1:b1 < wr.heap.size:=World.block_lt_of_cell? _ _ a0;have hle:(j:Int) < xlen:=by omega
    have GX:=hid gX;clear gX;obtain ⟨t,ht⟩: ∃t,ts[j]?=some t:=⟨ts[j]'(by have:=NX.out;simp [kids] at this;rw [this,LX.out];exact hlt),by simp⟩;have T:=hid ht;have hdrop:ts.drop j=t::ts.drop (j + 1):=by
     rw [List.drop_eq_getElem_cons (by have:=(List.getElem?_eq_some_iff.1 ht).1;exact this)];rw [(List.getElem?_eq_some_iff.1 ht).2]
    have HD:=hid hdrop;have HO2:=HO.out;rw [hdrop,List.map_cons] at HO2;have F:=HF.out.alloc (.cells #[.int .i64 X.k,.int .i64 X.n,.int .i64 X.c,.bool X.v,.slice X.a X.len X.cap,.string X.nm] 26);have FH:=hid F;clear F
    cases hcs:xI N s t P with
    |none=>rw [hcs] at HO2;cases HO2
    |some b'=>
     have HCS:=hid hcs;rw [hcs] at HO2;clear hcs hdrop ht;have HO3:=hid HO2;clear HO2;go_wp2_with fail
     refine (IH.out t X P b' _ B n s dv pv sil HCS.out (HU.out.keep FH.out) ((RX.out j X t GX.out T.out).keep FH.out.sub) (HH.out.kid (List.mem_of_getElem? T.out))).mono ?_;rintro e w2 ⟨rfl,hf2⟩;have HF2:=hid hf2;clear hf2
     cases b' with
     |true=>
      have hb':b=true:=by have:=HO3.out;simp [orL] at this;exact this
      subst hb';go_wp2;go_ret;exact ⟨rfl,FH.out.trans HF2.out⟩
     |false=>
      go_wp2;go_roundw
      case rel=>exact ⟨j + 1,by omega,by go_num,FH.out.trans HF2.out,by have:=HO3.out;simpa [orL] using this⟩
      case measure=>simp [intOf];omega
   ·have hjx:j=xlen:=by omega
    have hb':b=false:=by
     have:=HO.out;rw [List.drop_of_length_le (by have h:=NX.out;simp [kids] at h;rw [h,LX.out];omega)] at this;simp [orL] at this;exact this
    clear hjx;subst hb';go_wp2;go_ret;exact ⟨rfl,HF.out⟩
end Go.Proofs.YtpekidjfbinekaaGreatDoor
