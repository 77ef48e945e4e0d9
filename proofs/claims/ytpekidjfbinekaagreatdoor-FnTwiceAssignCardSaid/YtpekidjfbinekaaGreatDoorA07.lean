/- G4, W1, G5, G6, G7 -/
import Derived.Maps.Range
import Derived.Test.YtpekidjfbinekaaGreatDoorA06
set_option maxRecDepth 100000
set_option maxHeartbeats 60000000
set_option linter.all false
namespace Go.Proofs.YtpekidjfbinekaaGreatDoor
open Go.RowKit Uni
open Go.ChangeMaps (setBlock)
def OneOf (w w1:World):Prop:=w1=w\/w1=w.drew
def NoneLeft (es:Array MapEntry)(seen:Array Nat):Prop:=(leftOf es seen).size=0
def LeftIn (e:MapEntry)(es:Array MapEntry)(seen:Array Nat):Prop:=e∈(leftOf es seen).toList
section
variable {P:Program}{ops:Array Oper}{rest:List Oper}{o:Oper}{a:Act}{Q:Exit->Act->World->Prop}
theorem wpList_next_h (hg:o.guard=none)(it:Operand)(hop:o.op=Op.next it false)(w:World)(r bm since c0:Nat)(seen:Array Nat)(es:Array MapEntry)(clock:Nat)(hit:a.eval it= .pointer (some ⟨r,0,none⟩))
 (hr:w.heap[r]?=some (.mapIter (some bm) since seen c0)) (hb:w.heap[bm]?=some (.map es clock)) (hold: ∀x∈es.toList,x.born < since) (hsc:since<=c0)
 (hDone:NoneLeft es seen->wpList P ops Q rest (a.put o.dst (.tuple #[.bool false])) w)
 (hMore: ∀(e:MapEntry) (w1:World),LeftIn e es seen->OneOf w w1->wpList P ops Q rest (a.put o.dst (.tuple #[.bool true,e.key,e.val])) (setBlock w1 r (.mapIter (some bm) since (seen.push e.born) clock))):
 wpList P ops Q (o::rest) a w:=by
 refine wpList_plain hg fun K' hK'=> ?_
 unfold Oper.wp;rcases run_next_at (P:=P) w o.type r bm since c0 seen es clock hr hb hold hsc with ⟨h0,hrun⟩ | ⟨e,he,w1,hw1,hrun⟩
 ·simp [execOp,hop,hit,hrun,Result.andThen]
  exact hK' _ _ (hDone h0)
 ·simp [execOp,hop,hit,hrun,Result.andThen]
  exact hK' _ _ (hMore e w1 he hw1)
end
theorem left_count (tp hd:Nat->Addr)(n:Nat)(seen:Array Nat):(leftOf (zY tp hd n).toArray seen).size=((List.range' 0 n).filter fun p=> !seen.contains p).length:=by
 unfold leftOf zY;rw [List.filter_toArray,List.size_toArray,List.filter_map,List.length_map];rfl
theorem left_mem {tp hd:Nat->Addr}{n:Nat}{seen:Array Nat}{e:MapEntry}(h:e∈(leftOf (zY tp hd n).toArray seen).toList): ∃q,q < n/\seen.contains q=false/\e=ent tp hd q:=by
 unfold leftOf at h;rw [List.filter_toArray] at h;simp only [List.mem_filter] at h;obtain ⟨h1,h2⟩:=h;unfold zY at h1;obtain ⟨q,hq,rfl⟩:=List.mem_map.1 h1;exact ⟨q,by simpa using hq,by simpa [ent] using h2,rfl⟩
theorem left_zero {tp hd:Nat->Addr}{n:Nat}{seen:Array Nat}(h:(leftOf (zY tp hd n).toArray seen).size=0): ∀q,q < n->seen.contains q=true:=by
 intro q hq;rw [left_count] at h;have:=List.eq_nil_of_length_eq_zero h;rw [List.filter_eq_nil_iff] at this;have:=this q (by simp [hq]);simpa using this
theorem left_less {n:Nat}{seen:Array Nat}{q:Nat}(hq:q < n)(hs:seen.contains q=false):((List.range' 0 n).filter fun p=> !(seen.push q).contains p).length < ((List.range' 0 n).filter fun p=> !seen.contains p).length:=by
 have h1:((List.range' 0 n).filter fun p=> !(seen.push q).contains p)=(((List.range' 0 n).filter fun p=> !seen.contains p).filter fun p=> !(p==q)):=by
  rw [List.filter_filter];refine List.filter_congr fun p _=> ?_
  rw [Array.contains_push];cases seen.contains p <;>cases h:(p==q) <;>simp_all
 rw [h1];refine Nat.lt_of_le_of_ne (List.length_filter_le _ _) fun h=> ?_
 have:=List.length_filter_eq_length_iff.1 h q (by simp [hq];simpa using hs);simp at this
def hdS (hd:Nat->Addr)(hx h:Addr)(seen:Array Nat):Nat->Addr:=fun q=>if seen.contains q=true/\hd q=hx then h else hd q
theorem wZ {tp hd hd':Nat->Addr}{n:Nat}(h: ∀q,q < n->hd q=hd' q):zY tp hd n=zY tp hd' n:=by
 unfold zY;refine List.map_congr_left fun q hq=> ?_
 have:q < n:=by simpa using hq
 simp [ent,h q this]
abbrev F0:Nat->Prop:=fun _=>False
theorem alike_kind (x y:TyV)(w:World)(h:(x.k !=y.k)=true):
 Calls Tryz.prog 42 #[x.val,y.val] w fun e w'=>e= .returned (.bool false)/\Fr F0 w w':=by
 unfold TyV.val;go_enter Tryz.func42,Tryz.ntmps42;go_wp2;go_ret;exact ⟨rfl,by repeat (first | exact Fr.refl _ _ | refine Fr.alloc ?_ _)⟩
theorem alike_len (x y:TyV)(w:World)(h:(x.k !=y.k)=false)(h2:((x.len:Int) !=y.len)=true):
 Calls Tryz.prog 42 #[x.val,y.val] w fun e w'=>e= .returned (.bool false)/\Fr F0 w w':=by
 unfold TyV.val;go_enter Tryz.func42,Tryz.ntmps42;go_wp2;go_ret;exact ⟨rfl,by repeat (first | exact Fr.refl _ _ | refine Fr.alloc ?_ _)⟩
theorem alike_func (x y:TyV)(w:World)(h2:((x.len:Int) !=y.len)=false)(k1:x.k=10)(k2:y.k=10):
 Calls Tryz.prog 42 #[x.val,y.val] w fun e w'=>e= .returned (.bool (decide (x.c=y.c/\x.v=y.v)))/\Fr F0 w w':=by
 obtain ⟨k,n,c,v,a,len,cap,nm⟩:=x;obtain ⟨k',n',c',v',a',len',cap',nm'⟩:=y;dsimp only at *;subst k1 k2;have f1:((10:Int) !=10)=false:=rfl;have f2:((10:Int)==9)=false:=rfl;unfold TyV.val;dsimp only;by_cases hc:c=c'
 ·subst hc
  have f3:(c==c)=true:=by simp
  by_cases hv:v=v'
  ·subst hv
   go_enter Tryz.func42,Tryz.ntmps42;go_wp2;go_ret;exact ⟨by simp,by repeat (first | exact Fr.refl _ _ | refine Fr.alloc ?_ _)⟩
  ·go_enter Tryz.func42,Tryz.ntmps42
   go_wp2;go_ret;exact ⟨yL (by cases v <;>cases v' <;>simp_all),by repeat (first | exact Fr.refl _ _ | refine Fr.alloc ?_ _)⟩
 ·have f3:(c==c')=false:=by simp [hc]
  go_enter Tryz.func42,Tryz.ntmps42;go_wp2;go_ret;exact ⟨by simp [hc],by repeat (first | exact Fr.refl _ _ | refine Fr.alloc ?_ _)⟩
theorem alike_plain (x y:TyV)(w:World)(h:(x.k !=y.k)=false)(h2:((x.len:Int) !=y.len)=false)(k1:x.k=4\/x.k=5\/x.k=7):
 Calls Tryz.prog 42 #[x.val,y.val] w fun e w'=>e= .returned (.bool true)/\Fr F0 w w':=by
 obtain ⟨k,n,c,v,a,len,cap,nm⟩:=x;obtain ⟨k',n',c',v',a',len',cap',nm'⟩:=y;dsimp only at *;unfold TyV.val;dsimp only;rcases k1 with k1 | k1 | k1
 all_goals
  subst k1;go_enter Tryz.func42,Tryz.ntmps42;go_wp2;go_ret;exact ⟨rfl,by repeat (first | exact Fr.refl _ _ | refine Fr.alloc ?_ _)⟩
theorem alike_n (x y:TyV)(w:World)(h:(x.k !=y.k)=false)(h2:((x.len:Int) !=y.len)=false)
 (k1:(x.k==9)=false) (k2:(x.k==10)=false) (k3:(x.k==4)=false) (k4:(x.k==5)=false) (k5:(x.k==7)=false):
  Calls Tryz.prog 42 #[x.val,y.val] w fun e w'=>e= .returned (.bool (x.n==y.n))/\Fr F0 w w':=by
 unfold TyV.val;go_enter Tryz.func42,Tryz.ntmps42;go_wp2;go_ret;exact ⟨rfl,by repeat (first | exact Fr.refl _ _ | refine Fr.alloc ?_ _)⟩
theorem alike_struct (x y:TyV)(xs ys:List TyV)(w:World)(M:Nat->Prop)(fx:Flat w M x xs)(fy:Flat w M y ys)(hl:x.len=y.len)(k1:x.k=9)(k2:y.k=9):
 Calls Tryz.prog 42 #[x.val,y.val] w fun e w'=>e= .returned (.bool (decide (xs.map (fun y=>y.nm.toList)=ys.map (fun y=>y.nm.toList))))/\Fr F0 w w':=by
 obtain ⟨hx,lx,bx⟩:=fx;obtain ⟨hy,ly,_⟩:=fy;obtain ⟨k,n,c,v,a,len,cap,nm⟩:=x;obtain ⟨k',n',c',v',a',len',cap',nm'⟩:=y;dsimp only at *;subst k1 k2 hl;have f1:((9:Int) !=9)=false:=rfl;have f2:((len:Int) !=len)=false:=by simp
 have H1:=hid lx;have H2:=hid ly;clear lx ly;have HX:=hid hx;have HY:=hid hy;clear hx hy;have hb:len<=1954687338211:=bx.2.1;clear bx;unfold TyV.val;dsimp only;go_enter Tryz.func42,Tryz.ntmps42;go_wp2;go_loopw [28] (fun i wr=> ∃k:Nat,k<=len/\i= .int .i64 k/\Fr F0 w wr/\w.heap.size + 2<=wr.heap.size/\wr.cell? ⟨w.heap.size + 1,4,none⟩=some (.slice a' len cap')/\(∀i:Nat,i < k->(xs[i]?.map (fun y=>y.nm.toList))=(ys[i]?.map (fun y=>y.nm.toList)))) (fun i _=>len - (intOf i).toNat)
 case atStart=>exact ⟨0,Nat.zero_le _,rfl,by repeat (first | exact Fr.refl _ _ | refine Fr.alloc ?_ _),by simp,by simp,fun i hi=>by omega⟩
 case round=>
  obtain ⟨k,hk,rfl,hf,hs,hc,hn⟩:=hrel;have HF:=hid hf;have HN:=hid hn;clear hf hn;by_cases hlt:k < len
  ·obtain ⟨X,b1,o1,gX,rfl,e1⟩:=HX.out.elem (show k < xs.length by rw [H1.out];exact hlt)
   obtain ⟨Y,b2,o2,gY,rfl,e2⟩:=HY.out.elem (show k < ys.length by rw [H2.out];exact hlt);have hs1:w.heap.size + 1 < wr.heap.size:=by omega
   have hs0:w.heap.size < wr.heap.size:=by omega
   obtain ⟨_,a0,a1,a2,a3,a4,a5⟩:=e1;obtain ⟨_,d0,d1,d2,d3,d4,d5⟩:=e2;replace a0:=HF.out.cell id a0;replace a1:=HF.out.cell id a1;replace a2:=HF.out.cell id a2;replace a3:=HF.out.cell id a3;replace a4:=HF.out.cell id a4;replace a5:=HF.out.cell id a5;replace d5:=HF.out.cell id d5;clear d0 d1 d2 d3 d4;have hb1:b1 < wr.heap.size:=World.block_lt_of_cell? _ _ a0;have hb2:b2 < wr.heap.size:=World.block_lt_of_cell? _ _ d5
   have hle:(k:Int) < len:=by omega
   have GX:=hid gX;have GY:=hid gY;clear gX gY;have hcAt:=hid hc;go_wp2;go_quiet (fail);go_wp2
   ·rename_i hne
    have hne':X.nm.toList≠Y.nm.toList:=by simpa using hne
    go_ret;refine ⟨?_,?_⟩
    ·refine yL (decide_eq_false fun h=>hne' ?_).symm
     have:=congrArg (fun l=>l[k]?) h;simpa [GX.out,GY.out] using this
    ·exact (HF.out.alloc _).drawn _
   ·rename_i hne
    have hne':X.nm.toList=Y.nm.toList:=by simpa using hne
    go_roundw
    case rel=>
     refine ⟨k + 1,by omega,by go_num,?_,by simp;omega,?_,?_⟩
     ·exact (HF.out.alloc _).drawn _
     ·simp only [go_sem,hs1,hcAt.out]
     ·intro i hi
      by_cases hik:i=k
      ·subst hik;simp [GX.out,GY.out,hne']
      ·exact HN.out i (by omega)
    case measure=>simp [intOf];omega
  ·go_wp2
   go_ret;refine ⟨?_,HF.out⟩;refine yL (decide_eq_true ?_).symm;refine List.ext_getElem? fun i=> ?_
   by_cases hi:i < len
   ·simpa using HN.out i (by omega)
   ·rw [List.getElem?_eq_none (by simp;rw [H1.out];omega),List.getElem?_eq_none (by simp;rw [H2.out];omega)]
def xQ:Tm->Tm->Bool
 |.var p,.var q=>p==q
 |.node f l,.node g l'=>decide (f=g/\l.length=l'.length)
 |_,_=>false
theorem alike_any (x y:TyV)(s t:Tm)(w:World)(M:Nat->Prop)(hx:RT w M x s)(hy:RT w M y t):
 Calls Tryz.prog 42 #[x.val,y.val] w fun e w'=>e= .returned (.bool (xQ s t))/\Fr F0 w w':=by
 obtain ⟨xs,fx,nx,_,sx⟩:=hx.flat;obtain ⟨ys,fy,ny,_,sy⟩:=hy.flat;by_cases hk:x.k=y.k
 case neg=>
  refine (alike_kind x y w (by simpa using hk)).mono fun e w' ⟨he,hf⟩=>⟨he.trans ?_,hf⟩
  congr 2
  cases s with
  |var p=>cases t with
   |var q=>exact absurd (sx.1.trans sy.1.symm) hk
   |node g l'=>rfl
  |node f l=>cases t with
   |var q=>rfl
   |node g l'=>
    refine (decide_eq_false ?_).symm;rintro ⟨rfl,_⟩;exact hk (sx.k.trans sy.k.symm)
 have hk':(x.k !=y.k)=false:=by simp [hk]
 by_cases hl:x.len=y.len
 case neg=>
  refine (alike_len x y w hk' (by simp;omega)).mono fun e w' ⟨he,hf⟩=>⟨he.trans ?_,hf⟩
  congr 2
  cases s with
  |var p=>cases t with
   |var q=>
    exfalso;apply hl;have h1:xs.length=0:=nx.symm;have h2:ys.length=0:=ny.symm;rw [<-fx.len,<-fy.len,h1,h2]
   |node g l'=>rfl
  |node f l=>cases t with
   |var q=>rfl
   |node g l'=>
    refine (decide_eq_false ?_).symm;rintro ⟨rfl,h⟩;exact hl (by rw [<-fx.len,<-fy.len,<-nx,<-ny];exact h)
 have hl':((x.len:Int) !=y.len)=false:=by simp [hl]
 cases s with
 |var p=>cases t with
  |var q=>
   have e1:x.k=2:=sx.1;refine (alike_n x y w hk' hl' (by simp [e1]) (by simp [e1]) (by simp [e1]) (by simp [e1]) (by simp [e1])).mono fun e w' ⟨he,hf⟩=>⟨he.trans (yL ?_),hf⟩
   have e2:x.n=p:=sx.2;have e3:y.n=q:=sy.2;rw [e2,e3,xQ,Bool.eq_iff_iff];simp;omega
  |node g l'=>exfalso;apply sy.k2;have:=sy.k;have e:x.k=2:=sx.1;omega
 |node f l=>cases t with
  |var q=>exfalso;apply sx.k2;have:=sx.k;have e:y.k=2:=sy.1;omega
  |node g l'=>
   have hlen:l.length=l'.length:=by
    have h1:l.length=xs.length:=nx;have h2:l'.length=ys.length:=ny;rw [h1,h2,fx.len,fy.len,hl]
   have hfk:f.kind=g.kind:=by have:=sx.k;have:=sy.k;omega
   have key:xQ (.node f l) (.node g l')=decide (f=g):=by simp [xQ,hlen]
   obtain ⟨fk,fn,fc,fv,fnm⟩:=f;obtain ⟨gk,gn,gc,gv,gnm⟩:=g;obtain ⟨s1,_,s2,s3,s4,s5,_,_⟩:=sx;obtain ⟨r1,_,r2,r3,r4,r5,_,_⟩:=sy;dsimp only at *;subst hfk;by_cases h9:fk=9
   ·subst h9
    refine (alike_struct x y xs ys w M fx fy hl s1 r1).mono fun e w' ⟨he,hf⟩=>⟨he.trans (yL ?_),hf⟩
    rw [key,Bool.eq_iff_iff];simp at s3 s4 s5 r3 r4 r5;simp [s3,s4,s5,r3,r4,r5]
   by_cases h10:fk=10
   ·subst h10
    refine (alike_func x y w hl' s1 r1).mono fun e w' ⟨he,hf⟩=>⟨he.trans (yL ?_),hf⟩
    rw [key,Bool.eq_iff_iff];simp at s3 s4 s5 r3 r4 r5;simp [s3,s4,s5,r3,r4,r5];omega
   by_cases hp:fk=4\/fk=5\/fk=7
   ·refine (alike_plain x y w hk' hl' (by omega)).mono fun e w' ⟨he,hf⟩=>⟨he.trans (yL ?_),hf⟩
    rw [key,Bool.eq_iff_iff];rw [if_neg (by omega)] at s3 r3 s4 r4;rw [if_neg h9] at s5 r5;simp [s3,s4,s5,r3,r4,r5]
   ·have ne: ∀n:Nat,fk≠n->(x.k==(n:Int))=false:=fun n hn=>by rw [s1];simp;omega
    refine (alike_n x y w hk' hl' (ne 9 h9) (ne 10 h10) (ne 4 (by omega)) (ne 5 (by omega)) (ne 7 (by omega))).mono fun e w' ⟨he,hf⟩=>⟨he.trans (yL ?_),hf⟩
    rw [key,Bool.eq_iff_iff];rw [if_pos (by omega)] at s3 r3;rw [if_neg h10] at s4 r4;rw [if_neg h9] at s5 r5;simp [s3,s4,s5,r3,r4,r5];omega
open Go.ChangeMaps (setBlock)
theorem info103:(Tryz.prog.info? 103).map (fun i=>i.size)=some 1:=by kernel_rfl
theorem run_h_eq {w:World}{a b:Addr}{ca cb:Array Value}{ta tb:TypeId}(ha:w.heap[a.block]?=some (.cells ca ta (0,0)))(hb:w.heap[b.block]?=some (.cells cb tb (0,0))):
 (binOp .eql 245 (.pointer (some a)) (.pointer (some b))).run Tryz.prog w= .ok (.bool (decide (a=b))) w:=by
 obtain ⟨j,hj,hs⟩: ∃j,Tryz.prog.info? 103=some j/\j.size=1:=by
  have h:=info103
  cases h1:Tryz.prog.info? 103 with
  |none=>rw [h1] at h;cases h
  |some j=>rw [h1] at h;exact ⟨j,rfl,by simpa using h⟩
 by_cases hab:a=b
 ·subst hab
  rw [run_eql_ptr_same w a under245 hj];simp
 ·rw [run_eql_ptr_other w under245 hj (by omega) hab ha hb];simp [hab]
theorem wS (w:World):Calls Tryz.prog 131 #[.bool true] w fun e w'=>e= .returned (.tuple #[])/\w'=w:=by
 have hnot: ∀(x:Bool) (w:World),(Op.unary .not (.bool x)).run Tryz.prog w= .ok (.bool (!x)) w:=fun _ _=>rfl
 go_enter Tryz.func131,Tryz.ntmps131;go_wp2;go_end0;exact ⟨rfl,rfl⟩
theorem wA {w:World}{b:Nat}(h:b < w.heap.size)(o:Obj):(setBlock w b o).heap[b]?=some o:=by
 simp [setBlock,h]
theorem xH (w:World){b i:Nat}(h:i≠b)(o:Obj):(setBlock w b o).heap[i]?=w.heap[i]?:=by
 simp [setBlock,Ne.symm h]
theorem setBlock_size (w:World)(b:Nat)(o:Obj):(setBlock w b o).heap.size=w.heap.size:=by simp [setBlock]
theorem Fr.setBlock {M:Nat->Prop}{a w:World}(h:Fr M a w){b:Nat}(hb:M b\/a.heap.size<=b)(o:Obj):Fr M a (setBlock w b o):=
 ⟨h.os,h.tape,h.output,by rw [setBlock_size];exact h.size,fun k hk hm=>by
  rw [xH w (fun e=>by subst e;rcases hb with hb | hb;exact hm hb;omega)];exact h.block k hk hm⟩
theorem setHandle_any {w:World}{tp hd:Nat->Addr}{n U bm:Nat}{u2 u3:Value}(K:Keys w tp n)(hU:w.heap[U]?=some (.cells #[.pointer none,.map (some bm),u2,u3] 247 (0,0)))(hm:w.heap[bm]?=some (.map (zY tp hd n).toArray n))
 (hH: ∀q,q < n-> ∃v,w.heap[(hd q).block]?=some (.cells #[v] 103 (0,0))) (y x:Nat) (hy:y < n) (hx:x < n):
 Calls Tryz.prog 208 #[.pointer (some ⟨U,0,none⟩),.pointer (some (tp y)),.pointer (some (hd x))] w fun e w'=>e= .returned (.tuple #[])/\w'.heap[bm]?=some (.map (zY tp (fun q=>if hd q=hd y then hd x else hd q) n).toArray n)/\Fr (fun b=>b=bm) w w':=by
 have szb:bm < w.heap.size:=by rcases Nat.lt_or_ge bm w.heap.size with h | h;exact h;rw [Array.getElem?_eq_none h] at hm;cases hm
 have qu:=zA hU;have szu:=bl (qu 0);dsimp only at szu;have UB:=hid (show ¬U=bm from fun h=>by rw [h,hm] at hU;cases hU);have hl1:=xC (hd:=hd) K hm hy false;have HK:=hid K;have HU:=hid hU;have HM:=hid hm;have HH:=hid hH;have HR:=hid (run_range_map (P:=Tryz.prog) w 244 95 245 bm _ n under244 hm);clear K hU hm hH;simp only [Bool.false_eq_true,if_false] at hl1;go_enter Tryz.func208,Tryz.ntmps208;go_wp2_with fail
 refine (wS _).mono ?_;rintro e w1 ⟨rfl,rfl⟩;have hr:=HR.out;go_wp2;clear hr hl1;go_loopw [7,8] (fun _ _ wr=> ∃(seen:Array Nat) (c0:Nat),n<=c0/\wr.heap[w1.heap.size]?=some (.mapIter (some bm) n seen c0)/\wr.heap[bm]?=some (.map (zY tp (hdS hd (hd y) (hd x) seen) n).toArray n)/\Fr (fun b=>b=bm) w1 wr/\wr.heap.size=w1.heap.size + 1) (fun _ _ wr=>World.rangeLeft wr bm w1.heap.size)
 case atStart=>exact ⟨#[],n,Nat.le_refl _,heap_alloc_new w1 _,(Below.heap_alloc _ _ _ szb).trans (HM.out.trans (by rw [wZ (tp:=tp) (hd:=hd) (hd':=hdS hd (hd y) (hd x) #[]) (fun q _=>by simp [hdS])])),(Fr.refl _ w1).alloc _,by simp⟩
 case round=>
  obtain ⟨W3,rfl⟩: ∃W3:World,W3=wr:=⟨wr,rfl⟩;obtain ⟨seen,c0,hc0,hr1,hb1,hF1,hsz⟩:=hrel;have HR1:=hid hr1;have HB1:=hid hb1;have HF1:=hid hF1;have SZ:=hid hsz;clear hr1 hb1 hF1 hsz;have hold: ∀e:MapEntry,e∈(zY tp (hdS hd (hd y) (hd x) seen) n).toArray.toList->e.born < n:=fun e he=>by
   unfold zY at he;simp at he;obtain ⟨q,hq,rfl⟩:=he;simpa [ent] using hq
  have HOLD:=hid hold;clear hold;go_wp2_with (refine wpList_next_h rfl _ rfl W3 w1.heap.size bm n c0 seen _ n rfl HR1.out HB1.out HOLD.out hc0 ?_ ?_)
  ·intro h0
   have HZ:=hid (left_zero h0);clear h0;go_wp2;go_end0;refine ⟨rfl,?_,HF1.out⟩;rw [HB1.out,wZ (tp:=tp) (hd:=hdS hd (hd y) (hd x) seen) (hd':=fun q=>if hd q=hd y then hd x else hd q) (fun q hq=>by simp only [hdS,HZ.out q hq,true_and])]
  ·intro e W4 he hW4
   obtain ⟨q,hq,hs,rfl⟩:=left_mem he;have hv:(ent tp (hdS hd (hd y) (hd x) seen) q).val= .pointer (some (hd q)):=by
    have:hdS hd (hd y) (hd x) seen q=hd q:=by simp only [hdS,hs];simp
    simp [ent,this]
   obtain ⟨W5,hW5⟩: ∃W5,W5=setBlock W4 w1.heap.size (.mapIter (some bm) n (seen.push (ent tp (hdS hd (hd y) (hd x) seen) q).born) n):=⟨_,rfl⟩;have F4:Fr F0 W3 W4:=by rcases hW4 with rfl | rfl;exact Fr.refl _ _;exact (Fr.refl _ _).drew
   have s4:W4.heap.size=W3.heap.size:=by rcases hW4 with rfl | rfl <;>rfl
   have rb:w1.heap.size≠bm:=by omega
   have R5:=hid (show W5.heap[w1.heap.size]?=some (.mapIter (some bm) n (seen.push q) n) by rw [hW5,wA (by rw [s4,SZ.out];omega)];rfl);have B5:=hid (show W5.heap[bm]?=some (.map (zY tp (hdS hd (hd y) (hd x) seen) n).toArray n) by rw [hW5,xH W4 (Ne.symm rb)];exact F4.heap id HB1.out);have F5:=hid (show Fr (fun b=>b=bm) w1 W5 by rw [hW5];exact (HF1.out.trans F4.sub).setBlock (.inr (Nat.le_refl _)) _)
   have S5:=hid (show W5.heap.size=w1.heap.size + 1 by rw [hW5,setBlock_size,s4,SZ.out]);have hk:(ent tp (hdS hd (hd y) (hd x) seen) q).key= .pointer (some (tp q)):=rfl;rw [<-hW5,hv,hk];clear hk;have hen:=run_entry_at (P:=Tryz.prog) W5 w1.heap.size bm n seen _ n (ent tp (hdS hd (hd y) (hd x) seen) q) R5.out B5.out (by show _∈zY _ _ _;unfold zY;exact List.mem_map.2 ⟨q,by simp [hq],rfl⟩) (by
    unfold zY;simp only [List.map_map];have:((fun x:MapEntry=>x.born) ∘ ent tp (hdS hd (hd y) (hd x) seen))=id:=rfl;show ((List.range' 0 n).map ((fun x:MapEntry=>x.born) ∘ ent tp (hdS hd (hd y) (hd x) seen))).Nodup;rw [this,List.map_id];exact List.nodup_range')
   rw [hv] at hen;replace hen:(Instr.entry (.pointer (some ⟨w1.heap.size,0,none⟩))).run Tryz.prog W5= .ok (.tuple #[.pointer (some (tp q)),.pointer (some (hd q))]) W5:=hen;clear hW5 hv he hW4 F4 s4;have hbk: ∀b c t,w1.heap[b]?=some (.cells c t (0,0))-> ¬b=bm:=fun b c t h e=>by rw [e,HM.out] at h;cases h
   have K5:=hid (⟨fun p hp=>by obtain ⟨c,t,h⟩:=HK.out.cells p hp;exact ⟨c,t,F5.out.heap (hbk _ _ _ h) h⟩,HK.out.inj⟩:Keys W5 tp n);obtain ⟨v1,e1⟩:=HH.out q hq;obtain ⟨v2,e2⟩:=HH.out y hy;have heq:=run_h_eq (F5.out.heap (hbk _ _ _ e1) e1) (F5.out.heap (hbk _ _ _ e2) e2);have qu5:=zA (F5.out.heap UB.out HU.out);have szu5:U < W5.heap.size:=bl (qu5 0);have hup:=run_update_h K5.out B5.out hq (hd x);have HQ:=hid hs
   have ML:Hid (∀W6:World,W6.heap[w1.heap.size]?=some (.mapIter (some bm) n (seen.push q) n)->(∃hd',W6.heap[bm]?=some (.map (zY tp hd' n).toArray n))->World.rangeLeft W6 bm w1.heap.size < World.rangeLeft W3 bm w1.heap.size):=by
    intro W6 h6 ⟨hd',h7⟩;unfold World.rangeLeft;rw [h6,h7,HR1.out,HB1.out];show (leftOf _ _).size < (leftOf _ _).size;rw [left_count,left_count];exact left_less hq HQ.out
   clear e1 e2 hbk hs;by_cases hqy:hd q=hd y
   ·have HQY:=hid hqy
    rw [show decide (hd q=hd y)=true by simp [hqy]] at heq;clear hqy;go_wp2;go_roundw
    case rel=>
     refine ⟨seen.push q,n,Nat.le_refl _,by rw [xH W5 rb];exact R5.out,?_,F5.out.setBlock (.inl rfl) _,by rw [setBlock_size];exact S5.out⟩;rw [wZ (tp:=tp) (n:=n) (hd:=hdS hd (hd y) (hd x) (seen.push q)) (hd':=updA (hdS hd (hd y) (hd x) seen) q (hd x)) ?_]
     ·exact wA (by rw [S5.out];omega) _
     intro r _;unfold updA hdS;by_cases hrq:r=q
     ·subst hrq
      rw [if_pos rfl,if_pos ⟨by simp,HQY.out⟩]
     ·rw [if_neg hrq]
      have:(seen.push q).contains r=seen.contains r:=by rw [Array.contains_push];simp [hrq]
      rw [this]
    case measure=>
     refine ML.out _ (by rw [xH W5 rb];exact R5.out) ⟨_,wA (by rw [S5.out];omega) _⟩
   ·have HQY:=hid hqy
    rw [show decide (hd q=hd y)=false by simp [hqy]] at heq;clear hqy;go_wp2;go_roundw
    case rel=>
     refine ⟨seen.push q,n,Nat.le_refl _,R5.out,?_,F5.out,S5.out⟩;rw [wZ (tp:=tp) (n:=n) (hd:=hdS hd (hd y) (hd x) (seen.push q)) (hd':=hdS hd (hd y) (hd x) seen) ?_]
     ·exact B5.out
     intro r _;unfold hdS;by_cases hrq:r=q
     ·subst hrq
      rw [if_neg (fun h=>HQY.out h.2),if_neg (fun h=>HQY.out h.2)]
     ·have:(seen.push q).contains r=seen.contains r:=by rw [Array.contains_push];simp [hrq]
      rw [this]
    case measure=>exact ML.out _ R5.out ⟨_,B5.out⟩
open Go.ChangeMaps (setBlock)
def HV (w:World)(E:GEnv)(v:Value):Option Tm->Prop
 |none=>v= .nilIface
 |some t=>PT w E v t
theorem HV.keep {w w':World}{E:GEnv}{v:Value}{o:Option Tm}(h:HV w E v o)(f:Fr E.A w w'):HV w' E v o:=by
 cases o with
 |none=>exact h
 |some t=>exact PT.keep h f
structure NRep (w:World) (E:GEnv) (U bm:Nat) (hd:Nat->Addr) (s:St) (depth:Int):Prop where
 u:w.heap[U]?=some (.cells #[.pointer none,.map (some bm),.int .i64 depth,.bool false] 247 (0,0))
 m:w.heap[bm]?=some (.map (zY E.tp hd E.n).toArray E.n)
 h: ∀p,p < E.n->(hd p).off=0/\(hd p).spot=none/\E.A (hd p).block/\(hd p).block≠U/\ ∃v,w.heap[(hd p).block]?=some (.cells #[v] 103 (0,0))/\HV w E v (s.v (s.j p))
 cls: ∀p q,p < E.n->q < E.n->(hd p=hd q↔s.j p=s.j q)
 lt: ∀p,p < E.n->s.j p < E.n
 AU:E.A U
 Abm:E.A bm
theorem NRep.ne {w:World}{E:GEnv}{U bm:Nat}{hd:Nat->Addr}{s:St}{depth:Int}(h:NRep w E U bm hd s depth):U≠bm:=fun e=>by
 have h1:=h.u;rw [e,h.m] at h1;cases h1
theorem NRep.hne {w:World}{E:GEnv}{U bm:Nat}{hd:Nat->Addr}{s:St}{depth:Int}(h:NRep w E U bm hd s depth){p:Nat}(hp:p < E.n):(hd p).block≠bm:=fun e=>by
 obtain ⟨_,_,_,_,v,h1,_⟩:=h.h p hp;rw [e,h.m] at h1;cases h1
theorem NRep.hadd {w:World}{E:GEnv}{U bm:Nat}{hd:Nat->Addr}{s:St}{depth:Int}(h:NRep w E U bm hd s depth){p:Nat}(hp:p < E.n):hd p=⟨(hd p).block,0,none⟩:=by
 obtain ⟨h1,h2,_⟩:=h.h p hp
 cases hh:hd p with
 |mk b o s=>rw [hh] at h1 h2;simp at h1 h2;rw [h1,h2]
theorem NRep.keep {w w':World}{E:GEnv}{U bm:Nat}{hd:Nat->Addr}{s:St}{depth:Int}(h:NRep w E U bm hd s depth)(f:Fr (fun _=>False) w w'):NRep w' E U bm hd s depth:=by
 refine ⟨f.heap id h.u,f.heap id h.m,fun p hp=> ?_,h.cls,h.lt,h.AU,h.Abm⟩;obtain ⟨h1,h2,h3,h4,v,h5,h6⟩:=h.h p hp;exact ⟨h1,h2,h3,h4,v,f.heap id h5,h6.keep f.sub⟩
theorem NRep.setDepth {w:World}{E:GEnv}{U bm:Nat}{hd:Nat->Addr}{s:St}{depth:Int}(h:NRep w E U bm hd s depth)(d:Int):NRep (w.setCell ⟨U,2,none⟩ (.int .i64 d)) E U bm hd s d:=by
 have F:Fr (fun b=>b=U) w (w.setCell ⟨U,2,none⟩ (.int .i64 d)):=(Fr.refl (fun b=>b=U) w).setCell (p:=⟨U,2,none⟩) (.inl rfl) _;refine ⟨heap_setCell (a:=⟨U,2,none⟩) h.u rfl,F.heap (Ne.symm h.ne) h.m,fun p hp=> ?_,h.cls,h.lt,h.AU,h.Abm⟩;obtain ⟨h1,h2,h3,h4,v,h5,h6⟩:=h.h p hp;exact ⟨h1,h2,h3,h4,v,F.heap h4 h5,h6.keep (F.mono fun b _ hb=>by rw [hb];exact h.AU)⟩
theorem run_neq_nil (ty:TypeId)(v:Value)(w:World):(binOp .neq 103 (.iface ty v) .nilIface).run Tryz.prog w= .ok (.bool true) w:=by
 obtain ⟨ms,hi⟩:=wU;have h: ∀d:Nat,(Op.equalIn (d + 1) 103 (.iface ty v) .nilIface).run Tryz.prog w= .ok false w:=fun d=>by simp [Op.equalIn,run_underlying hi]
 simp only [binOp];simp [Op.equal,Op.maxDepth,h 9999]
theorem run_neq_nil2 (w:World):(binOp .neq 103 .nilIface .nilIface).run Tryz.prog w= .ok (.bool false) w:=by
 obtain ⟨ms,hi⟩:=wU;have h: ∀d:Nat,(Op.equalIn (d + 1) 103 .nilIface .nilIface).run Tryz.prog w= .ok true w:=fun d=>by simp [Op.equalIn,run_underlying hi]
 simp only [binOp];simp [Op.equal,Op.maxDepth,h 9999]
section
variable {w:World}{E:GEnv}{U bm:Nat}{hd:Nat->Addr}{s:St}{depth:Int}
theorem at_any (hE:EnvOk w E)(hN:NRep w E U bm hd s depth)(p:Nat)(hp:p < E.n):Calls Tryz.prog 133 #[.pointer (some ⟨U,0,none⟩),.pointer (some (E.tp p))] w fun e w'=> ∃v,e= .returned v/\HV w E v (s.v (s.j p))/\w'=w:=by
 obtain ⟨_,_,_,_,v,h5,h6⟩:=hN.h p hp;have ha:=hN.hadd hp;have hl:=xC hE.keys hN.m hp false;have qu:=zA hN.u;have szu:=bl (qu 0);have qh:=zA h5 0;have szh:=World.block_lt_of_cell? _ _ (qh.trans rfl);dsimp only at szu szh;have H6:=hid h6;simp only [Bool.false_eq_true,if_false] at hl;rw [ha] at hl;clear hE hN h5 h6 ha;go_enter Tryz.func133,Tryz.ntmps133;go_wp2;go_ret;exact ⟨v,rfl,H6.out,rfl⟩
theorem NRep.put (hN:NRep w E U bm hd s depth)(p:Nat)(hp:p < E.n)(v:Value)(t:Tm)(hv:PT w E v t):NRep (w.setCell ⟨(hd p).block,0,none⟩ v) E U bm hd (s.putAt (s.j p) t) depth:=by
 obtain ⟨h1,h2,h3,h4,v0,h5,h6⟩:=hN.h p hp;have F:Fr (fun b=>b=(hd p).block) w (w.setCell ⟨(hd p).block,0,none⟩ v):=(Fr.refl (fun b=>b=(hd p).block) w).setCell (p:=⟨(hd p).block,0,none⟩) (.inl rfl) _;have FA:Fr E.A w (w.setCell ⟨(hd p).block,0,none⟩ v):=F.mono fun b _ hb=>by rw [hb];exact h3
 refine ⟨F.heap (Ne.symm h4) hN.u,F.heap (Ne.symm (hN.hne hp)) hN.m,fun q hq=> ?_,hN.cls,hN.lt,hN.AU,hN.Abm⟩;obtain ⟨g1,g2,g3,g4,v1,g5,g6⟩:=hN.h q hq;refine ⟨g1,g2,g3,g4,?_⟩;by_cases hpq:(hd q).block=(hd p).block
 ·have hh:hd q=hd p:=by rw [hN.hadd hq,hN.hadd hp,hpq]
  have hj:=(hN.cls q p hq hp).1 hh;refine ⟨v,by rw [hpq];exact heap_setCell (a:=⟨(hd p).block,0,none⟩) h5 rfl,?_⟩;have:(s.putAt (s.j p) t).v ((s.putAt (s.j p) t).j q)=some t:=by simp only [St.putAt,if_pos hj]
  rw [this];exact PT.keep hv FA
 ·have hj: ¬s.j q=s.j p:=fun h=>hpq (by rw [(hN.cls q p hq hp).2 h])
  refine ⟨v1,F.heap hpq g5,?_⟩;have:(s.putAt (s.j p) t).v ((s.putAt (s.j p) t).j q)=s.v (s.j q):=by simp only [St.putAt,if_neg hj]
  rw [this];exact g6.keep FA
theorem set_go (hE:EnvOk w E)(hN:NRep w E U bm hd s depth)(p:Nat)(hp:p < E.n)(v:Value)(t:Tm)(hv:PT w E v t):Calls Tryz.prog 168 #[.pointer (some ⟨U,0,none⟩),.pointer (some (E.tp p)),v] w fun e w'=>e= .returned (.tuple #[])/\NRep w' E U bm hd (s.putAt (s.j p) t) depth/\Fr E.A w w':=by
 have HP:=hid (hN.put p hp v t hv);obtain ⟨_,_,hA,_,v0,h5,_⟩:=hN.h p hp;obtain ⟨a,_,_,hva,_⟩:=hv.form hE;have ha:=hN.hadd hp;have hl:=xC hE.keys hN.m hp false;have qu:=zA hN.u;have szu:=bl (qu 0);have qh:=zA h5 0;have fh:=zC h5 0;have szh:=World.block_lt_of_cell? _ _ (qh.trans rfl);dsimp only at szu szh;simp only [Bool.false_eq_true,if_false] at hl;rw [ha] at hl;have hnn:=run_neq_nil (tyOf t) (.pointer (some a))
 have HA:=hid hA;clear hE hN h5 ha hv hA;subst hva;go_enter Tryz.func168,Tryz.ntmps168;go_wp2_with fail
 refine (wS _).mono ?_;rintro e w1 ⟨rfl,rfl⟩;go_wp2;go_end0;exact ⟨rfl,HP.out,(Fr.refl E.A w1).setCell (p:=⟨(hd p).block,0,none⟩) (.inl HA.out) _⟩
theorem bound_var (hE:EnvOk w E)(hN:NRep w E U bm hd s depth)(p:Nat)(hp:p < E.n):Calls Tryz.prog 162 #[.pointer (some ⟨U,0,none⟩),.iface 95 (.pointer (some (E.tp p)))] w fun e w'=>e= .returned (.pointer (some (E.tp p)))/\w'=w:=by
 have A:=zD p95;have hl:=xC hE.keys hN.m hp true;have qu:=zA hN.u;have szu:=bl (qu 0);dsimp only at szu;clear hE hN;go_enter Tryz.func162,Tryz.ntmps162;go_wp2_with fail
 refine (zM _ _ _ (by decide)).mono ?_;rintro e w1 ⟨rfl,rfl⟩;go_wp2;go_ret;exact ⟨rfl,rfl⟩
theorem yH (ty:TypeId)(pv:Value)(h: ¬ty=283)(h': ¬ty=95):Calls Tryz.prog 162 #[.pointer (some ⟨U,0,none⟩),.iface ty pv] w fun e w'=>e= .returned (.pointer none)/\w'=w:=by
 have A:=zD p95;go_enter Tryz.func162,Tryz.ntmps162;go_wp2_with fail
 refine (zM _ _ _ h).mono ?_;rintro e w1 ⟨rfl,rfl⟩;go_wp2;go_ret;exact ⟨rfl,rfl⟩
end
theorem NRep.joined {w w':World}{E:GEnv}{U bm:Nat}{hd:Nat->Addr}{s:St}{depth:Int}(hN:NRep w E U bm hd s depth)(a b:Nat)(ha:a < E.n)(hb:b < E.n)(hab:s.j a≠s.j b)(hv:s.v (s.j b)=none)
 (F:Fr (fun b=>b=bm) w w') (hm:w'.heap[bm]?=some (.map (zY E.tp (fun q=>if hd q=hd b then hd a else hd q) E.n).toArray E.n)):NRep w' E U bm (fun q=>if hd q=hd b then hd a else hd q) (s.join (s.j a) (s.j b)) depth:=by
 have FA:Fr E.A w w':=F.mono fun b _ hb=>by rw [hb];exact hN.Abm
 have hc: ∀q,q < E.n->(hd q=hd b↔s.j q=s.j b):=fun q hq=>hN.cls q b hq hb
 have jj: ∀q,(s.join (s.j a) (s.j b)).j q=if s.j q=s.j a\/s.j q=s.j b then min (s.j a) (s.j b) else s.j q:=fun _=>rfl
 have mn:min (s.j a) (s.j b)=s.j a\/min (s.j a) (s.j b)=s.j b:=by omega
 refine ⟨F.heap hN.ne hN.u,hm,fun p hp=> ?_,fun p q hp hq=> ?_,fun p hp=> ?_,hN.AU,hN.Abm⟩
 ·by_cases h:hd p=hd b
  ·rw [if_pos h]
   obtain ⟨h1,h2,h3,h4,v,h5,h6⟩:=hN.h a ha;refine ⟨h1,h2,h3,h4,v,F.heap (hN.hne ha) h5,?_⟩;have:(s.join (s.j a) (s.j b)).v ((s.join (s.j a) (s.j b)).j p)=s.v (s.j a):=by
    rw [jj,if_pos (.inr ((hc p hp).1 h))];simp only [St.join,if_true]
    cases s.v (s.j a) with
    |none=>exact hv
    |some t=>rfl
   rw [this];exact h6.keep FA
  ·rw [if_neg h]
   obtain ⟨h1,h2,h3,h4,v,h5,h6⟩:=hN.h p hp;refine ⟨h1,h2,h3,h4,v,F.heap (hN.hne hp) h5,?_⟩;have hpb: ¬s.j p=s.j b:=fun e=>h ((hc p hp).2 e)
   have:(s.join (s.j a) (s.j b)).v ((s.join (s.j a) (s.j b)).j p)=s.v (s.j p):=by
    rw [jj];by_cases hpa:s.j p=s.j a
    ·rw [if_pos (.inl hpa),hpa]
     simp only [St.join,if_true]
     cases s.v (s.j a) with
     |none=>exact hv
     |some t=>rfl
    ·rw [if_neg (by rintro (e | e);exact hpa e;exact hpb e)]
     simp only [St.join];rw [if_neg (by rcases mn with e | e <;>rw [e];exact hpa;exact hpb)]
   rw [this];exact h6.keep FA
 ·rw [jj,jj]
  have cpq:=hN.cls p q hp hq;have cpa:=hN.cls p a hp ha;have cqa:=hN.cls q a hq ha;have cpb:=hc p hp;have cqb:=hc q hq;by_cases h1:hd p=hd b <;>by_cases h2:hd q=hd b
  ·rw [if_pos h1,if_pos h2,if_pos (.inr (cpb.1 h1)),if_pos (.inr (cqb.1 h2))];simp
  ·rw [if_pos h1,if_neg h2,if_pos (.inr (cpb.1 h1))]
   constructor
   ·intro h
    rw [if_pos (.inl (cqa.1 h.symm))]
   ·intro h
    by_cases h3:s.j q=s.j a
    ·exact (cqa.2 h3).symm
    ·have h4: ¬s.j q=s.j b:=fun e=>h2 (cqb.2 e)
     rw [if_neg (by rintro (e | e);exact h3 e;exact h4 e)] at h;rcases mn with e | e <;>rw [e] at h
     ·exact absurd h.symm h3
     ·exact absurd h.symm h4
  ·rw [if_neg h1,if_pos h2]
   by_cases h3:s.j p=s.j a
   ·rw [if_pos (.inl h3),if_pos (.inr (cqb.1 h2))]
    exact ⟨fun _=>rfl,fun _=>cpa.2 h3⟩
   ·have h4: ¬s.j p=s.j b:=fun e=>h1 (cpb.2 e)
    rw [if_neg (by rintro (e | e);exact h3 e;exact h4 e),if_pos (.inr (cqb.1 h2))];constructor
    ·intro h;exact absurd (cpa.1 h) h3
    ·intro h
     rcases mn with e | e <;>rw [e] at h
     ·exact absurd h h3
     ·exact absurd h h4
  ·rw [if_neg h1,if_neg h2,cpq]
   have h3: ¬s.j p=s.j b:=fun e=>h1 (cpb.2 e)
   have h4: ¬s.j q=s.j b:=fun e=>h2 (cqb.2 e)
   by_cases h5:s.j p=s.j a <;>by_cases h6:s.j q=s.j a
   ·rw [if_pos (.inl h5),if_pos (.inl h6),h5,h6];simp
   ·rw [if_pos (.inl h5),if_neg (by rintro (e | e);exact h6 e;exact h4 e)]
    constructor
    ·intro h;rw [h5] at h;exact absurd h.symm h6
    ·intro h
     rcases mn with e | e <;>rw [e] at h
     ·exact absurd h.symm h6
     ·exact absurd h.symm h4
   ·rw [if_neg (by rintro (e | e);exact h5 e;exact h3 e),if_pos (.inl h6)]
    constructor
    ·intro h;rw [h6] at h;exact absurd h h5
    ·intro h
     rcases mn with e | e <;>rw [e] at h
     ·exact absurd h h5
     ·exact absurd h h3
   ·rw [if_neg (by rintro (e | e);exact h5 e;exact h3 e),if_neg (by rintro (e | e);exact h6 e;exact h4 e)]
 ·rw [jj]
  have:=hN.lt p hp;have:=hN.lt a ha;have:=hN.lt b hb
  split <;>omega
def JoinPost (w:World)(E:GEnv)(U bm:Nat)(hd:Nat->Addr)(s:St)(depth:Int)(p q:Nat)(e:Ending)(w':World):Prop:=
 Fr E.A w w'/\((s.j p=s.j q/\e= .returned (.bool true)/\NRep w' E U bm hd s depth)\/
  (s.j p≠s.j q/\(∃a b,s.v (s.j p)=some a/\s.v (s.j q)=some b)/\e= .returned (.bool false)/\NRep w' E U bm hd s depth)\/
  (s.j p≠s.j q/\(s.v (s.j p)=none\/s.v (s.j q)=none)/\e= .returned (.bool true)/\ ∃hd',NRep w' E U bm hd' (s.join (s.j p) (s.j q)) depth))
section
variable {w:World}{E:GEnv}{U bm:Nat}{hd:Nat->Addr}{s:St}{depth:Int}
theorem join_go (hE:EnvOk w E)(hN:NRep w E U bm hd s depth)(p q:Nat)(hp:p < E.n)(hq:q < E.n):Calls Tryz.prog 166 #[.pointer (some ⟨U,0,none⟩),.pointer (some (E.tp p)),.pointer (some (E.tp q))] w (JoinPost w E U bm hd s depth p q):=by
 obtain ⟨_,_,hpA,hpU,v1,h5,h6⟩:=hN.h p hp;obtain ⟨_,_,hqA,hqU,v2,g5,g6⟩:=hN.h q hq;have ha:=hN.hadd hp;have hb:=hN.hadd hq;have HN:=hid hN;have HE:=hid hE;have H6:=hid h6;have G6:=hid g6;have K:=hE.keys;have hl1:=xC K hN.m hp false;have hl2:=xC K hN.m hq false;have hl3:=fun k=>xC (w:=w.drewN k) ⟨K.cells,K.inj⟩ hN.m hp false
 have hl4:=fun k=>xC (w:=w.drewN k) ⟨K.cells,K.inj⟩ hN.m hq false
 have qu:=zA hN.u;have szu:=bl (qu 0);have q1:=zA h5 0;have q2:=zA g5 0;have s1:=World.block_lt_of_cell? _ _ (q1.trans rfl);have s2:=World.block_lt_of_cell? _ _ (q2.trans rfl);dsimp only at szu s1 s2;simp only [Bool.false_eq_true,if_false] at hl1 hl2 hl3 hl4;rw [ha] at hl1 hl3;rw [hb] at hl2 hl4;have heq:=fun k=>run_h_eq (w:=w.drewN k) (a:=⟨(hd p).block,0,none⟩) (b:=⟨(hd q).block,0,none⟩) h5 g5
 clear hE hN h5 g5 h6 g6 K ha hb;by_cases hj:s.j p=s.j q
 ·have hh:(hd p).block=(hd q).block:=by rw [(HN.out.cls p q hp hq).2 hj]
  have HJ:=hid hj;rw [show decide ((⟨(hd p).block,0,none⟩:Addr)=⟨(hd q).block,0,none⟩)=true by simp [hh]] at heq;clear hh hj;go_enter Tryz.func166,Tryz.ntmps166;go_wp2;go_quiet (fail);go_wp2;go_ret;exact ⟨(Fr.refl _ w).drawn _,.inl ⟨HJ.out,rfl,HN.out.keep ((Fr.refl _ w).drawn _)⟩⟩
 ·have hh: ¬(hd p).block=(hd q).block:=fun h=>hj ((HN.out.cls p q hp hq).1 (by rw [HN.out.hadd hp,HN.out.hadd hq,h]))
  have HJ:=hid hj;rw [show decide ((⟨(hd p).block,0,none⟩:Addr)=⟨(hd q).block,0,none⟩)=false by simp [hh]] at heq;clear hj hh;have SH:=hid (fun (w':World) (f:Fr (fun _=>False) w w') (y x:Nat) (hy:y < E.n) (hx:x < E.n)=>setHandle_any (w:=w') (HE.out.keep f.sub).keys (HN.out.keep f).u (HN.out.keep f).m (fun r hr=>by obtain ⟨_,_,_,_,v,h,_⟩:=(HN.out.keep f).h r hr;exact ⟨v,h⟩) y x hy hx);have nn:=fun (ty:TypeId) v w=>run_neq_nil ty v w
  have nn2:=fun w=>run_neq_nil2 w
  cases hvp:s.v (s.j p) with
  |some tp'=>
   rw [hvp] at H6;obtain ⟨a1,_,_,hv1,_⟩:=(show PT w E v1 tp' from H6.out).form HE.out;have VP:=hid hvp;clear hvp H6;subst hv1
   cases hvq:s.v (s.j q) with
   |some tq'=>
    rw [hvq] at G6;obtain ⟨a2,_,_,hv2,_⟩:=(show PT w E v2 tq' from G6.out).form HE.out;have VQ:=hid hvq;clear hvq G6;subst hv2;go_enter Tryz.func166,Tryz.ntmps166;go_wp2;go_quiet (fail);go_wp2;go_ret;exact ⟨(Fr.refl _ w).drawn _,.inr (.inl ⟨HJ.out,⟨_,_,VP.out,VQ.out⟩,rfl,HN.out.keep ((Fr.refl _ w).drawn _)⟩)⟩
   |none=>
    rw [hvq] at G6;have hv2:v2= .nilIface:=G6.out;have VQ:=hid hvq;clear hvq G6;subst hv2;go_enter Tryz.func166,Tryz.ntmps166;go_wp2;go_quiet (fail);go_wp2_with fail
    rw [<-HN.out.hadd hp];refine (SH.out _ ((Fr.refl _ w).drawn nq) q p hq hp).mono ?_;rintro e w1 ⟨rfl,hm1,hf1⟩;have HM1:=hid hm1;have HF1:=hid hf1;clear hm1 hf1;go_wp2;go_ret;exact ⟨((Fr.refl _ w).drawn _).trans (HF1.out.mono fun b _ hb=>by rw [hb];exact HN.out.Abm),.inr (.inr ⟨HJ.out,.inr VQ.out,rfl,fun r=>if hd r=hd q then hd p else hd r,(HN.out.keep ((Fr.refl _ w).drawn nq)).joined p q hp hq HJ.out VQ.out HF1.out HM1.out⟩)⟩
  |none=>
   rw [hvp] at H6;have hv1:v1= .nilIface:=H6.out;have VP:=hid hvp;clear hvp H6;subst hv1;go_enter Tryz.func166,Tryz.ntmps166;go_wp2;go_quiet (fail);go_wp2_with fail
   rw [<-HN.out.hadd hq];refine (SH.out _ ((Fr.refl _ w).drawn nq) p q hp hq).mono ?_;rintro e w1 ⟨rfl,hm1,hf1⟩;have HM1:=hid hm1;have HF1:=hid hf1;clear hm1 hf1;go_wp2;go_ret;refine ⟨((Fr.refl _ w).drawn _).trans (HF1.out.mono fun b _ hb=>by rw [hb];exact HN.out.Abm),.inr (.inr ⟨HJ.out,.inl VP.out,rfl,fun r=>if hd r=hd p then hd q else hd r,?_⟩)⟩;rw [join_comm s _ _ (.inl VP.out)];exact (HN.out.keep ((Fr.refl _ w).drawn nq)).joined q p hq hp (Ne.symm HJ.out) VP.out HF1.out HM1.out
end
end Go.Proofs.YtpekidjfbinekaaGreatDoor
