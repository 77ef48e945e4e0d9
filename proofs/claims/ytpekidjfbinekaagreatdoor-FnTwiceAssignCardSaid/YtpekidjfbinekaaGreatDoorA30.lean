/- W18, W19, W20 -/
import Derived.Test.YtpekidjfbinekaaGreatDoorA27
set_option maxRecDepth 100000
set_option maxHeartbeats 60000000
set_option linter.all false
namespace Go.Proofs.YtpekidjfbinekaaGreatDoor
open Go.RowKit Uni
def wT (e:Ending)(P:Prop):Prop:= ∃b,e= .returned (.bool b)/\(b=true->P)
theorem wT.no (P:Prop):wT (.returned (.bool false)) P:=⟨false,rfl,fun h=>by cases h⟩
theorem wT.yes {P:Prop}(h:P):wT (.returned (.bool true)) P:=⟨true,rfl,fun _=>h⟩
theorem equal_end {x y:TyV}{s t:Tm}{xs ys:List TyV}(hx:Head x xs s)(hy:Head y ys t)(k:x.k=y.k)(n:x.n=y.n)(c:x.c=y.c)(v:x.v=y.v)(hk:kids s=kids t)(hn:xs.map (fun z=>z.nm.toList)=ys.map (fun z=>z.nm.toList)):s=t:=by
 cases s with
 |var p=>
  have hx:x.k=2/\x.n=p:=hx
  cases t with
  |var q=>
   have hy:y.k=2/\y.n=q:=hy;have:(p:Int)=q:=by rw [<-hx.2,<-hy.2,n]
   rw [Int.ofNat_inj.1 this]
  |node g us=>
   have hy:Shape y g ys:=hy;have:=hy.k;have:=hy.k2;omega
 |node f ts=>
  have hx:Shape x f xs:=hx
  cases t with
  |var q=>
   have hy:y.k=2/\y.n=q:=hy;have:=hx.k;have:=hx.k2;omega
  |node g us=>
   have hy:Shape y g ys:=hy;have h1:f.kind=g.kind:=by have:=hx.k;have:=hy.k;omega
   have h2:f.n=g.n:=by
    have a:=hx.n;have b:=hy.n;rw [<-h1] at b
    split at a
    ·rw [if_pos ‹_›] at b;omega
    ·rw [if_neg ‹_›] at b;omega
   have h3:f.cnt=g.cnt∧f.vari=g.vari:=by
    have a:=hx.c;have b:=hy.c;rw [<-h1] at b
    split at a
    ·rw [if_pos ‹_›] at b
     exact ⟨by omega,by rw [<-a.2,<-b.2,v]⟩
    ·rw [if_neg ‹_›] at b
     exact ⟨by omega,by rw [a.2,b.2]⟩
   have h4:f.names=g.names:=by
    rw [hx.names,hy.names,h1]
    split
    ·exact hn
    ·rfl
   obtain ⟨a,b,c',d,e⟩:=f;obtain ⟨a',b',c'',d',e'⟩:=g;simp only at h1 h2 h3 h4;obtain ⟨h3,h5⟩:=h3;subst h1 h2 h3 h4 h5;have:ts=us:=hk;rw [this]
theorem equal_any (s:Tm): ∀(t:Tm)(x y:TyV)(w:World)(M:Nat->Prop),RT w M x s->RT w M y t->
 Calls Tryz.prog 65 #[x.val,y.val] w fun e w'=>wT e (s=t/\x.nm.toList=y.nm.toList)/\Fr F0 w w':=by
 have key: ∀s:Tm,(∀u∈kids s,∀(t:Tm) (x y:TyV) (w:World) (M:Nat→Prop),RT w M x u→RT w M y t→
  Calls Tryz.prog 65 #[x.val,y.val] w fun e w'=>wT e (u=t/\x.nm.toList=y.nm.toList)/\Fr F0 w w')-> ∀(t:Tm) (x y:TyV) (w:World) (M:Nat->Prop),RT w M x s->RT w M y t->
  Calls Tryz.prog 65 #[x.val,y.val] w fun e w'=>wT e (s=t/\x.nm.toList=y.nm.toList)/\Fr F0 w w':=by
  intro s ih t x y w M hx hy;obtain ⟨xs,fx,nx,rx,sx⟩:=hx.flat;obtain ⟨ys,fy,ny,ry,sy⟩:=hy.flat;have EE:=hid (fun k n c v hk hn=>equal_end sx sy k n c v hk hn);have IH:=hid ih;have RX:=hid rx;have RY:=hid ry;obtain ⟨hxe,lx,bx⟩:=fx;obtain ⟨hye,ly,_⟩:=fy;have HX:=hid hxe;have HY:=hid hye;have LX:=hid lx;have LY:=hid ly;have NX:=hid nx;have NY:=hid ny;have hb:x.len<=1954687338211:=bx.2.1;clear ih rx ry hx hy hxe hye lx ly nx ny bx sx sy
  obtain ⟨k,n,c,v,a,len,cap,nm⟩:=x;obtain ⟨k',n',c',v',a',len',cap',nm'⟩:=y;unfold TyV.val at *;dsimp only at *;by_cases h:k=k'
  ·subst h
   by_cases h:n=n'
   ·subst h
    by_cases hnm:nm.toList=nm'.toList
    ·have HNM:=hid hnm
     by_cases h:c=c'
     ·subst h
      by_cases h:v=v'
      ·subst h
       by_cases h:len=len'
       ·subst h
        have E2:=hid (fun hk hn=>EE.out rfl rfl rfl rfl hk hn);clear EE;go_enter Tryz.func65,Tryz.ntmps65;go_wp2;go_loopw [52] (fun i wr=> ∃j:Nat,j<=len/\i= .int .i64 j/\Fr F0 w wr/\w.heap.size + 2<=wr.heap.size/\wr.cell? ⟨w.heap.size + 1,4,none⟩=some (.slice a' len cap')/\(∀i:Nat,i < j->(kids s)[i]?=(kids t)[i]?/\(xs[i]?).map (fun z=>z.nm.toList)=(ys[i]?).map (fun z=>z.nm.toList))) (fun i _=>len - (intOf i).toNat)
        case atStart=>exact ⟨0,Nat.zero_le _,rfl,by repeat (first | exact Fr.refl _ _ | refine Fr.alloc ?_ _),by simp,zA (zS w _ _) 4,fun i hi=>by omega⟩
        case round=>
         obtain ⟨j,hj,rfl,hf,hsz,hcy,hn⟩:=hrel;have HF:=hid hf;have HN:=hid hn;have HCY:=hid hcy;clear hn hf;have hs2:w.heap.size + 1 < wr.heap.size:=by omega
         by_cases hlt:j < len
         ·obtain ⟨X,b1,o1,gX,rfl,e1⟩:=HX.out.elem (show j < xs.length by rw [LX.out];exact hlt)
          obtain ⟨Y,b2,o2,gY,rfl,e2⟩:=HY.out.elem (show j < ys.length by rw [LY.out];exact hlt);have e1:=e1.keep HF.out.sub;have e2:=e2.keep HF.out.sub;obtain ⟨_,a0,a1,a2,a3,a4,a5⟩:=e1;obtain ⟨_,d0,d1,d2,d3,d4,d5⟩:=e2;have hb1:b1 < wr.heap.size:=World.block_lt_of_cell? _ _ a0;have hb2:b2 < wr.heap.size:=World.block_lt_of_cell? _ _ d5;have hle:(j:Int) < len:=by omega
          have GX:=hid gX;have GY:=hid gY;clear gX gY;go_wp2_with fail
          refine zP 6 (by kernel_rfl) ?_;simp only [List.take_succ_cons,List.take_zero,List.drop_succ_cons,List.drop_zero]
          repeat still_step
          refine wpStill_nil ?_;obtain ⟨u,hu⟩: ∃u,(kids s)[j]?=some u:=⟨(kids s)[j]'(by rw [NX.out,LX.out];exact hlt),by simp⟩;obtain ⟨u',hu'⟩: ∃u,(kids t)[j]?=some u:=⟨(kids t)[j]'(by rw [NY.out,LY.out];exact hlt),by simp⟩;have RTX:=RX.out j X u GX.out hu;have RTY:=RY.out j Y u' GY.out hu';have U:=hid hu;have U':=hid hu';clear hu hu';have FW:=hid (show Fr F0 w _ from (HF.out.alloc (.cells #[.int .i64 X.k,.int .i64 X.n,.int .i64 X.c,.bool X.v,.slice X.a X.len X.cap,.string X.nm] 26)).drew)
          have FE:=hid (show Fr F0 wr _ from ((Fr.refl F0 wr).alloc (.cells #[.int .i64 X.k,.int .i64 X.n,.int .i64 X.c,.bool X.v,.slice X.a X.len X.cap,.string X.nm] 26)).drew);go_wp2_with fail
          have:=(IH.out u (List.mem_of_getElem? U.out) u' X Y _ M (RTX.keep FW.out.sub) (RTY.keep FW.out.sub));refine this.mono ?_;clear this;rintro e w2 ⟨⟨b,rfl,hbt⟩,hf2⟩;have F2:=hid hf2;have HBT:=hid hbt;clear hf2 hbt
          cases b with
          |false=>
           go_wp2;go_ret;exact ⟨wT.no _,FW.out.trans F2.out⟩
          |true=>
           have HBQ:=hid (HBT.out rfl);clear HBT;go_wp2;go_roundw
           case rel=>
            refine ⟨j + 1,by omega,by go_num,FW.out.trans F2.out,?_,?_,?_⟩
            ·have:=(FE.out.trans F2.out).size;omega
            ·exact (FE.out.trans F2.out).cell id HCY.out
            ·intro i hi
             by_cases hik:i=j
             ·subst hik
              have:=HBQ.out;rw [U.out,U'.out,GX.out,GY.out,this.1];exact ⟨rfl,by simp [this.2]⟩
             ·exact HN.out i (by omega)
           case measure=>simp [intOf];omega
         ·have hge: ¬(j:Int) < len:=by omega
          have hst:Hid (s=t):=hid (by
           refine E2.out ?_ ?_
           ·refine List.ext_getElem? fun i=> ?_
            by_cases hi:i < len
            ·exact (HN.out i (by omega)).1
            ·rw [List.getElem?_eq_none (by rw [NX.out,LX.out];omega),List.getElem?_eq_none (by rw [NY.out,LY.out];omega)]
           ·refine List.ext_getElem? fun i=> ?_
            rw [List.getElem?_map,List.getElem?_map];by_cases hi:i < len
            ·exact (HN.out i (by omega)).2
            ·rw [List.getElem?_eq_none (by rw [LX.out];omega),List.getElem?_eq_none (by rw [LY.out];omega)])
          go_wp2;go_ret;exact ⟨wT.yes (by first | exact ⟨hst.out,HNM.out⟩ | exact hst.out),HF.out⟩
       ·have f1:((len:Int)==len')=false:=by simp;omega
        have f2:((len:Int) !=len')=true:=by simp;omega
        clear h;go_enter Tryz.func65,Tryz.ntmps65;go_wp2;go_ret;exact ⟨wT.no _,by repeat (first | exact Fr.refl _ _ | refine Fr.alloc ?_ _)⟩
      ·have f1:(v==v')=false:=beq_eq_false_iff_ne.2 h
       have f2:(v !=v')=true:=by rw [bne,beq_eq_false_iff_ne.2 h];rfl
       clear h;go_enter Tryz.func65,Tryz.ntmps65;go_wp2;go_ret;exact ⟨wT.no _,by repeat (first | exact Fr.refl _ _ | refine Fr.alloc ?_ _)⟩
     ·have f1:(c==c')=false:=beq_eq_false_iff_ne.2 h
      have f2:(c !=c')=true:=by rw [bne,beq_eq_false_iff_ne.2 h];rfl
      clear h;go_enter Tryz.func65,Tryz.ntmps65;go_wp2;go_ret;exact ⟨wT.no _,by repeat (first | exact Fr.refl _ _ | refine Fr.alloc ?_ _)⟩
    ·go_enter Tryz.func65,Tryz.ntmps65
     go_wp2;go_ret;exact ⟨wT.no _,by repeat (first | exact Fr.refl _ _ | refine Fr.alloc ?_ _)⟩
   ·have f1:(n==n')=false:=beq_eq_false_iff_ne.2 h
    have f2:(n !=n')=true:=by rw [bne,beq_eq_false_iff_ne.2 h];rfl
    clear h;go_enter Tryz.func65,Tryz.ntmps65;go_wp2;go_ret;exact ⟨wT.no _,by repeat (first | exact Fr.refl _ _ | refine Fr.alloc ?_ _)⟩
  ·have f1:(k==k')=false:=beq_eq_false_iff_ne.2 h
   have f2:(k !=k')=true:=by rw [bne,beq_eq_false_iff_ne.2 h];rfl
   clear h;go_enter Tryz.func65,Tryz.ntmps65;go_wp2;go_ret;exact ⟨wT.no _,by repeat (first | exact Fr.refl _ _ | refine Fr.alloc ?_ _)⟩
 induction s using Tm.ind with
 |hv p=>exact key _ (fun u hu=>by cases hu)
 |hn f l ih=>exact key _ (fun u hu=>ih u hu)
structure MB where
 m:Nat
 c:Nat
 v:Nat
def MB.M (B:MB):Nat->Prop:=fun b=>b=B.m\/b=B.c\/b=B.v
structure YIn (ar:Nat→Nat) (dl:Nat) (w:World) (B:MB) (n:Nat) (x:TyV) (t:Tm):Prop where
 r:RT w B.M x t
 g:Uni.Good dl ar t
 h:Holes 2 n t
def ValsAt (ar:Nat→Nat)(dl:Nat)(w:World)(B:MB)(n:Nat)(v:Value)(l:List Tm):Prop:=
 ∃(a:Option Addr) (cap:Nat) (xs:List TyV),v= .slice a l.length cap∧xB w B.M a xs∧xs.length=l.length∧l.length≤cap∧cap≤maxLen∧(l= []→a=none∧cap=0)∧
  ∀(i:Nat) (y:TyV) (t:Tm),xs[i]?=some y->l[i]?=some t->YIn ar dl w B n y t
structure MRep (ar:Nat→Nat) (dl:Nat) (w:World) (B:MB) (n:Nat) (M:Mg) (fuel:Int) (dv:Value):Prop where
 m: ∃ca cc va vc,w.heap[B.m]?=some (.cells #[dv,.slice ca n cc,.slice va n vc,.int .i64 fuel] 80 (0,0))/\(0 < n->ca=some ⟨B.c,0,none⟩/\va=some ⟨B.v,0,none⟩)
 c:0 < n-> ∃c,w.heap[B.c]?=some (.cells c 3 (0,0))/\ ∀p,p < n->c[p]?=some (.int .i64 (M.cls p))
 v:0 < n-> ∃c,w.heap[B.v]?=some (.cells c 24 (0,0))/\ ∀p,p < n-> ∃u,c[p]?=some u/\ValsAt ar dl w B n u (M.vals p)
 lt: ∀p,p < n->M.cls p < n
 n8:n<=8
 ne:0 < n->B.m≠B.c/\B.m≠B.v/\B.c≠B.v
 wt: ∃k:Nat,Wt M n k/\k<=20000/\(k:Int)<=20000 - fuel
 lo: -4611686018427387904<=fuel
 sz:B.m < w.heap.size/\(0 < n->B.c < w.heap.size/\B.v < w.heap.size)
 below: ∀b,B.M b->b < w.heap.size
section
variable {ar:Nat->Nat}{dl:Nat}
theorem YIn.keep {w w':World}{B:MB}{n:Nat}{x:TyV}{t:Tm}(h:YIn ar dl w B n x t)(f:Fr B.M w w'):YIn ar dl w' B n x t:=⟨h.r.keep f,h.g,h.h⟩
theorem ValsAt.keep {w w':World}{B:MB}{n:Nat}{v:Value}{l:List Tm}(h:ValsAt ar dl w B n v l)(f:Fr B.M w w'):ValsAt ar dl w' B n v l:=by
 obtain ⟨a,cap,xs,h1,h2,h3,h4,h5,h6,h7⟩:=h;exact ⟨a,cap,xs,h1,h2.keep f,h3,h4,h5,h6,fun i y t hy ht=>(h7 i y t hy ht).keep f⟩
theorem MRep.keep {w w':World}{B:MB}{n:Nat}{M:Mg}{fuel:Int}{dv:Value}(h:MRep ar dl w B n M fuel dv)(f:Fr F0 w w'):MRep ar dl w' B n M fuel dv:=by
 obtain ⟨hm,hc,hv,h1,h2,h3,h4,h5,h6,h7⟩:=h;refine ⟨?_,fun hn=> ?_,fun hn=> ?_,h1,h2,h3,h4,h5,⟨Nat.lt_of_lt_of_le h6.1 f.size,fun hn=>⟨Nat.lt_of_lt_of_le (h6.2 hn).1 f.size,Nat.lt_of_lt_of_le (h6.2 hn).2 f.size⟩⟩,fun b hb=>Nat.lt_of_lt_of_le (h7 b hb) f.size⟩
 ·obtain ⟨ca,cc,va,vc,h,h'⟩:=hm
  exact ⟨ca,cc,va,vc,f.heap id h,h'⟩
 ·obtain ⟨c,h,h'⟩:=hc hn
  exact ⟨c,f.heap id h,h'⟩
 ·obtain ⟨c,h,h'⟩:=hv hn
  refine ⟨c,f.heap id h,fun p hp=> ?_⟩;obtain ⟨u,a,b⟩:=h' p hp;exact ⟨u,a,b.keep f.sub⟩
theorem MRep.setFuel {w:World}{B:MB}{n:Nat}{M:Mg}{fuel:Int}{dv:Value}(h:MRep ar dl w B n M fuel dv)(f':Int)(hlo: -4611686018427387904<=f')(hf:f'<=fuel):MRep ar dl (w.setCell ⟨B.m,3,none⟩ (.int .i64 f')) B n M f' dv:=by
 obtain ⟨hm,hc,hv,h1,h2,h3,⟨k,h4,h4',h4''⟩,h5,h6,h7⟩:=h;have F:Fr B.M w (w.setCell ⟨B.m,3,none⟩ (.int .i64 f')):=(Fr.refl B.M w).setCell (p:=⟨B.m,3,none⟩) (.inl (.inl rfl)) _;have G:Fr (fun b=>b=B.m) w (w.setCell ⟨B.m,3,none⟩ (.int .i64 f')):=(Fr.refl (fun b=>b=B.m) w).setCell (p:=⟨B.m,3,none⟩) (.inl rfl) _;refine ⟨?_,fun hn=> ?_,fun hn=> ?_,h1,h2,h3,⟨k,h4,h4',by omega⟩,hlo,⟨Nat.lt_of_lt_of_le h6.1 F.size,fun hn=>⟨Nat.lt_of_lt_of_le (h6.2 hn).1 F.size,Nat.lt_of_lt_of_le (h6.2 hn).2 F.size⟩⟩,fun b hb=>Nat.lt_of_lt_of_le (h7 b hb) F.size⟩
 ·obtain ⟨ca,cc,va,vc,h,h'⟩:=hm
  exact ⟨ca,cc,va,vc,heap_setCell (a:=⟨B.m,3,none⟩) h rfl,h'⟩
 ·obtain ⟨c,h,h'⟩:=hc hn
  exact ⟨c,G.heap (Ne.symm (h3 hn).1) h,h'⟩
 ·obtain ⟨c,h,h'⟩:=hv hn
  refine ⟨c,G.heap (Ne.symm (h3 hn).2.1) h,fun p hp=> ?_⟩;obtain ⟨u,a,b⟩:=h' p hp;exact ⟨u,a,b.keep F⟩
theorem merge_out (x y:TyV)(w:World)(B:MB)(n:Nat)(M:Mg)(fuel:Int)(dv:Value)(hM:MRep ar dl w B n M fuel dv)(hf:fuel<=1)(hl: -4611686018427387904<=fuel - 1):
 Calls Tryz.prog 47 #[.pointer (some ⟨B.m,0,none⟩),x.val,y.val] w fun e w'=>e= .returned (.tuple #[])/\MRep ar dl w' B n M (fuel - 1) dv/\Fr B.M w w':=by
 have HM:=hid hM;obtain ⟨ca,cc,va,vc,hu,_⟩:=hM.m;have qm:=zA hu;have fm:=zC hu;have szm:=hM.sz.1;clear hM hu;obtain ⟨xk,xn,xc,xv,xa,xlen,xcap,xnm⟩:=x;obtain ⟨yk,yn,yc,yv,ya,ylen,ycap,ynm⟩:=y;unfold TyV.val at *;dsimp only at *;go_enter Tryz.func47,Tryz.ntmps47;go_wp2;refine bodyPost_ret (v:= .tuple #[]) (by first | exact results_none rfl | rfl | simp [results,go_sem]) rfl ?_;refine ⟨rfl,(HM.out.setFuel (fuel - 1) hl (by omega)).keep (((Fr.refl F0 _).alloc _).alloc _),(((Fr.refl B.M w).setCell (p:=⟨B.m,3,none⟩) (.inl (.inl rfl)) _).alloc _).alloc _⟩
end
section
variable {da:Option Addr}{dl dc:Nat}{D:zE}{ar:Nat->Nat}
def MPost (ar:Nat→Nat)(dl:Nat)(D:zE)(B:MB)(n:Nat)(dv:Value)(w:World)(M:Mg)(fuel:Int)(s t:Tm)(e:Ending)(w':World):Prop:=
 e= .returned (.tuple #[])/\ ∃M' f',MRep ar dl w' B n M' f' dv/\Fr B.M w w'/\Burnt fuel f'/\(0 < f'->Merged D M M' s t)
def MStep (da:Option Addr)(dl dc:Nat)(D:zE)(ar:Nat→Nat)(F:Nat):Prop:=
 ∀(s t:Tm) (x y:TyV) (w:World) (B:MB) (n:Nat) (M:Mg) (fuel:Int),fuel≤F→F≤20000→ -90000000000000000≤fuel→MRep ar dl w B n M fuel (.slice da dl dc)→DRep w B.M da dl D ar→YIn ar dl w B n x s→YIn ar dl w B n y t→
  Calls Tryz.prog 47 #[.pointer (some ⟨B.m,0,none⟩),x.val,y.val] w (MPost ar dl D B n (.slice da dl dc) w M fuel s t)
theorem merge_plain (F:Nat)(ih:MStep da dl dc D ar F)(f g:Lab)(ts us:List Tm)(x y:TyV)(w:World)(B:MB)(n:Nat)(M:Mg)(fuel:Int)(hF:fuel<=F + 1)(hF2:F + 1<=20000)(hf2:2<=fuel)
 (hM:MRep ar dl w B n M fuel (.slice da dl dc)) (hd:DRep w B.M da dl D ar) (hx:YIn ar dl w B n x (.node f ts)) (hy:YIn ar dl w B n y (.node g us)) (hf:f.kind≠1) (hg:g.kind≠1):
 Calls Tryz.prog 47 #[.pointer (some ⟨B.m,0,none⟩),x.val,y.val] w (MPost ar dl D B n (.slice da dl dc) w M fuel (.node f ts) (.node g us)):=by
 have NM:=hid (fun b (h:w.heap.size<=b) (hb:B.M b)=>(Nat.not_lt.2 h (hM.below b hb):False));obtain ⟨xs,fx,nx,rx,sx⟩:=hx.r.flat;obtain ⟨ys,fy,ny,ry,sy⟩:=hy.r.flat;have sx:Shape x f xs:=sx;have sy:Shape y g ys:=sy;have kx:x.k=f.kind:=sx.k;have ky:y.k=g.kind:=sy.k;have x2:(x.k==2)=false:=by have:=sx.k2;simp;omega
 have y2:(y.k==2)=false:=by have:=sy.k2;simp;omega
 have x1:(x.k==1)=false:=by rw [kx];simp;omega
 have y1:(y.k==1)=false:=by rw [ky];simp;omega
 obtain ⟨ca,cc,va,vc,hu,_⟩:=hM.m;have szm:=hM.sz.1;have qm:=zA hu;have fm:=zC hu;have XE:=hid fx.elems;have YE:=hid fy.elems;have LX:=hid fx.len;have LY:=hid fy.len;have LT:=hid (show ts.length=x.len by rw [<-fx.len];exact nx);have LU:=hid (show us.length=y.len by rw [<-fy.len];exact ny);have RX:=hid (fun i z t hz ht=>(⟨rx i z t hz ht,hx.g.kid (List.mem_of_getElem? ht),hx.h.kid (List.mem_of_getElem? ht)⟩:YIn ar dl w B n z t))
 have RY:=hid (fun i z t hz ht=>(⟨ry i z t hz ht,hy.g.kid (List.mem_of_getElem? ht),hy.h.kid (List.mem_of_getElem? ht)⟩:YIn ar dl w B n z t));have hbx:=fx.bound.2.1;have hby:=fy.bound.2.1;clear fx nx rx sx fy ny ry sy;have HM:=hid hM;have HD:=hid hd;have HX:=hid hx;have HY:=hid hy;have IH:=hid ih;clear hM hd hx hy ih hu kx ky;obtain ⟨xk,xn,xc,xv,xa,xlen,xcap,xnm⟩:=x;obtain ⟨yk,yn,yc,yv,ya,ylen,ycap,ynm⟩:=y
 unfold TyV.val at *;dsimp only at *;have hle0: ¬(fuel - 1<=0):=by omega
 have hfu:fuel<=20000:=by omega
 have SC:=hid (show (w.setCell ⟨B.m,3,none⟩ (.int .i64 (fuel - 1))).heap.size=w.heap.size by simp [World.setCell]);go_enter Tryz.func47,Tryz.ntmps47;go_wp2;have tg:Fin 10:=0;rotate_left;have tg:Fin 11:=0;rotate_left
 all_goals
  first
  |rename Fin 10=>tg
   go_loopw [223] (fun i wr=> ∃(j:Nat) (M':Mg) (f':Int),j≤ylen∧i= .int .i64 j∧MRep ar dl wr B n M' f' (.slice da dl dc)∧Fr B.M w wr∧wr.heap[w.heap.size]?=some (.cells #[.int .i64 xk,.int .i64 xn,.int .i64 xc,.bool xv,.slice xa xlen xcap,.string xnm] 26 (0,0))∧wr.heap[w.heap.size + 1]?=some (.cells #[.int .i64 yk,.int .i64 yn,.int .i64 yc,.bool yv,.slice ya ylen ycap,.string ynm] 26 (0,0))∧Burning fuel (0 + j) f'∧
    (0 < f'->Run D M M' (fun u v=>(False)\/ ∃i,i < j/\ts[i]?=some u/\us[i]?=some v))) (fun i _=>ylen - (intOf i).toNat)
  |go_loopw [223] (fun i wr=> ∃(j:Nat) (M':Mg) (f':Int),j≤xlen∧i= .int .i64 j∧MRep ar dl wr B n M' f' (.slice da dl dc)∧Fr B.M w wr∧wr.heap[w.heap.size]?=some (.cells #[.int .i64 xk,.int .i64 xn,.int .i64 xc,.bool xv,.slice xa xlen xcap,.string xnm] 26 (0,0))∧wr.heap[w.heap.size + 1]?=some (.cells #[.int .i64 yk,.int .i64 yn,.int .i64 yc,.bool yv,.slice ya ylen ycap,.string ynm] 26 (0,0))∧Burning fuel (0 + j) f'∧
    (0 < f'->Run D M M' (fun u v=>(False)\/ ∃i,i < j/\ts[i]?=some u/\us[i]?=some v))) (fun i _=>xlen - (intOf i).toNat)
  case atStart=>exact ⟨0,M,fuel - 1,Nat.zero_le _,rfl,(HM.out.setFuel (fuel - 1) (by omega) (by omega)).keep (((Fr.refl F0 _).alloc _).alloc _),(((Fr.refl B.M w).setCell (p:=⟨B.m,3,none⟩) (.inl (.inl rfl)) _).alloc _).alloc _,(Below.heap_alloc _ _ _ (by simp [World.setCell])).trans (by have h:=heap_alloc_new (w.setCell ⟨B.m,3,none⟩ (.int .i64 (fuel - 1))) (.cells #[.int .i64 xk,.int .i64 xn,.int .i64 xc,.bool xv,.slice xa xlen xcap,.string xnm] 26);rw [SC.out] at h;exact h),by have h:=zS (w.setCell ⟨B.m,3,none⟩ (.int .i64 (fuel - 1))) (.cells #[.int .i64 xk,.int .i64 xn,.int .i64 xc,.bool xv,.slice xa xlen xcap,.string xnm] 26) (.cells #[.int .i64 yk,.int .i64 yn,.int .i64 yc,.bool yv,.slice ya ylen ycap,.string ynm] 26);rw [SC.out] at h;exact h,Burning.start (by omega),fun _=>(Run.refl D M).mono fun _ _ h=>by rcases h with h | ⟨i,hi,_⟩;exact h.elim;omega⟩
  case round=>
   obtain ⟨j,M1,f1,hj,rfl,hM1,hF1,hBX,hBY,hb1,hR1⟩:=hrel;have HM1:=hid hM1;have HF:=hid hF1;have BX:=hid hBX;have BY:=hid hBY;have HB:=hid hb1;have HR:=hid hR1;clear hM1 hF1 hBX hBY hb1 hR1;have qx:=zA BX.out;have qy:=zA BY.out;have szx:=bl (qx 0);have szy:=bl (qy 0);dsimp only at szx szy
   first
   |rename Fin 10=>tg
    by_cases hlt:j < ylen
   |by_cases hlt:j < xlen
   ·obtain ⟨X,b1,o1,gX,rfl,e1⟩:=XE.out.elem (show j < xs.length by rw [LX.out];omega)
    obtain ⟨Y,b2,o2,gY,rfl,e2⟩:=YE.out.elem (show j < ys.length by rw [LY.out];omega);have e1:=e1.keep HF.out;have e2:=e2.keep HF.out;obtain ⟨_,a0,a1,a2,a3,a4,a5⟩:=e1;obtain ⟨_,d0,d1,d2,d3,d4,d5⟩:=e2;have hb1:b1 < wr.heap.size:=World.block_lt_of_cell? _ _ a0;have hb2:b2 < wr.heap.size:=World.block_lt_of_cell? _ _ d5
    first
    |rename Fin 10=>tg
     have hle:(j:Int) < ylen:=by omega
    |have hle:(j:Int) < xlen:=by omega
    have hlex:(j:Int) < xlen:=by omega
    have hley:(j:Int) < ylen:=by omega
    have GX:=hid gX;have GY:=hid gY;clear gX gY;obtain ⟨t,ht⟩: ∃t,ts[j]?=some t:=⟨ts[j]'(by rw [LT.out];omega),by simp⟩;obtain ⟨u,hu⟩: ∃u,us[j]?=some u:=⟨us[j]'(by rw [LU.out];omega),by simp⟩;have T:=hid ht;have U:=hid hu;clear ht hu;have LO:=hid (show -90000000000000000<=f1 by have:=HB.out.low;have:=HB.out.less;omega);have HI:=hid (show f1<=F by have:=HB.out.less;omega);go_wp2_with fail
    refine zP 11 (by kernel_rfl) ?_;simp only [List.take_succ_cons,List.take_zero,List.drop_succ_cons,List.drop_zero]
    repeat still_step
    refine wpStill_nil ?_;go_wp2_with fail
    refine (IH.out t u X Y _ B n M1 f1 HI.out (by omega) LO.out (HM1.out.keep (Fr.refl _ _).drew) (HD.out.keep HF.out.drew) ((RX.out j X t GX.out T.out).keep HF.out.drew) ((RY.out j Y u GY.out U.out).keep HF.out.drew)).mono ?_;rintro e w2 ⟨rfl,M2,f2,hM2,hF2,hB2,hR2⟩;have HM2:=hid hM2;have HF2:=hid hF2;have HB2:=hid hB2;have HR2:=hid hR2;clear hM2 hF2 hB2 hR2;go_wp2;go_roundw
    case rel=>
     refine ⟨j + 1,M2,f2,by omega,by go_num,HM2.out,HF.out.drew.trans HF2.out,HF2.out.heap (NM.out _ (Nat.le_refl _)) BX.out,HF2.out.heap (NM.out _ (Nat.le_succ _)) BY.out,HB.out.step (by omega) HB2.out,fun h0=> ?_⟩;refine ((HR.out (by have:=HB2.out.less;omega)).step (HR2.out h0)).mono fun a b hab=> ?_
     rcases hab with hab | ⟨i,hi,h1,h2⟩
     ·exact .inl (.inl hab)
     ·by_cases hij:i=j
      ·subst hij
       rw [T.out] at h1;rw [U.out] at h2;exact .inr ⟨(Option.some.inj h1).symm,(Option.some.inj h2).symm⟩
      ·exact .inl (.inr ⟨i,by omega,h1,h2⟩)
    case measure=>simp [intOf];omega
   ·first
    |rename Fin 10=>tg
     have hge: ¬(j:Int) < ylen:=by omega
     have hjl:j=ylen:=by omega
    |have hge: ¬(j:Int) < xlen:=by omega
     have hjl:j=xlen:=by omega
    go_wp2;refine bodyPost_ret (v:= .tuple #[]) (results_none rfl _ _ _) rfl ?_;refine ⟨rfl,M1,f1,HM1.out,HF.out,HB.out.done (by omega) (by omega),fun h0=>yX (HR.out h0) (fun h=>absurd h hf) (fun h=>absurd h hg) (fun i a b ha hb=> .inr ⟨i,?_,ha,hb⟩)⟩;have h1:=(List.getElem?_eq_some_iff.1 ha).1;have h2:=(List.getElem?_eq_some_iff.1 hb).1;have:=LT.out;have:=LU.out;omega
end
end Go.Proofs.YtpekidjfbinekaaGreatDoor
