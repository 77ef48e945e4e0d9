/- V4, V5, V6, V7, V8, V9 -/
import Derived.Test.YtpekidjfbinekaaGreatDoorA39
set_option maxRecDepth 100000
set_option maxHeartbeats 60000000
set_option linter.all false
namespace Go.Proofs.YtpekidjfbinekaaGreatDoor
open Go.RowKit Uni
structure ShapedT (w:World) (dl:Nat) (ar:Nat→Nat) (n o:Nat) (x:TyV) (t:Tm):Prop where
 r:RT w F0 x t
 g:Uni.Good dl ar t
 h2:Holes 2 n t
 h3:Holes 3 o t
def ShQ (w:World)(dl:Nat)(ar:Nat->Nat)(n o:Nat)(x:TyV):Prop:= ∃t,ShapedT w dl ar n o x t
theorem pick_list {α β:Type}{R:α->β->Prop}: ∀(xs:List α),(∀(i:Nat)(x:α),xs[i]?=some x-> ∃t,R x t)-> ∃ts:List β,ts.length=xs.length/\ ∀(i:Nat)(x:α)(t:β),xs[i]?=some x->ts[i]?=some t->R x t
 |[],_=>⟨[],rfl,fun i x t h=>by simp at h⟩
 |x::xs,h=>by
  obtain ⟨t,ht⟩:=h 0 x rfl;obtain ⟨ts,hl,hts⟩:=pick_list xs (fun i y hy=>h (i + 1) y (by simpa using hy));refine ⟨t::ts,by simp [hl],fun i y u hy hu=> ?_⟩
  cases i with
  |zero=>simp at hy hu;subst hy hu;exact ht
  |succ i=>exact hts i y u (by simpa using hy) (by simpa using hu)
theorem names_nodup {xs:List TyV}(h: ∀i,NameAt xs i):(xs.map (fun y=>y.nm.toList)).Nodup:=by
 rw [List.Nodup,List.pairwise_iff_getElem];intro i j hi hj hij;simp at hi hj;have h2:=(h j (xs[j]) (by simp [hj])).2 i (xs[i]) hij (by simp [hi]);simpa using h2
def labOf (x:TyV)(xs:List TyV):Lab:=
 ⟨x.k.toNat,if x.k=0\/x.k=1\/x.k=3\/x.k=6\/x.k=8 then x.n.toNat else 0,if x.k=10 then x.c.toNat else 0,decide (x.k=10) && x.v,if x.k=9 then xs.map (fun y=>y.nm.toList) else []⟩
theorem shaped_end {w:World}{dl:Nat}{ar:Nat->Nat}{n o:Nat}{x:TyV}{xs:List TyV}(hf:Flat w F0 x xs)(hk:0<=x.k/\x.k<=10)
 (he:0<=xE x.k->(x.len:Int)=xE x.k) (hn1: -1<=yO dl x.k n o->0<=x.n) (hn2:0<=yO dl x.k n o->x.n < yO dl x.k n o)
 (hnm:x.k=1->x.len=ar x.n.toNat)
 (hfn:x.k=10->0<=x.c/\x.c<=x.len/\(x.v=true-> ∃(C:Nat) (Y:TyV),x.c=(C:Int) + 1/\xs[C]?=some Y/\Y.k=5))
 (hst:x.k=9-> ∀i,NameAt xs i) (hkids: ∀(i:Nat) (y:TyV),xs[i]?=some y->ShQ w dl ar n o y):ShQ w dl ar n o x:=by
 obtain ⟨hk0,hk10⟩:=hk;obtain ⟨ts,hl,hts⟩:=pick_list xs hkids;by_cases h2:x.k=2
 ·have l0:x.len=0:=by have:=he (by rw [h2];decide);rw [h2] at this;have e:xE 2=0:=rfl;omega
  have e2:yO dl x.k n o=n:=by rw [h2];rfl
  rw [e2] at hn1 hn2;refine ⟨.var x.n.toNat,.var x _ h2 (by have:=hn1 (by omega);omega) l0 hf.bound.2.2,.var _,.var _ (fun _=> ?_),.var _ (fun h=>by cases h)⟩;have:=hn1 (by omega);have:=hn2 (by omega);omega
 obtain ⟨f,hfdef⟩: ∃f,f=labOf x xs:=⟨_,rfl⟩;have fk:(f.kind:Int)=x.k:=by rw [hfdef];simp [labOf];omega
 have hlen:=hf.len;have tl:ts.length=x.len:=by rw [hl,hlen]
 have fn:x.k=0∨x.k=1∨x.k=3∨x.k=6∨x.k=8→(f.n:Int)=x.n:=by
  intro hc;rw [hfdef];simp only [labOf,if_pos hc]
  have:0≤x.n:=by
   apply hn1;rcases hc with h | h | h | h | h <;>rw [h] <;>simp [yO] <;>omega
  omega
 have kidT: ∀t∈ts,∃y,ShapedT w dl ar n o y t:=by
  intro t ht;obtain ⟨i,hi,rfl⟩:=List.mem_iff_getElem.mp ht;have hi':i < xs.length:=by omega
  exact ⟨xs[i],hts i _ _ (by simp [hi']) (by simp [hi])⟩
 refine ⟨.node f ts,.node x f xs ts ?_ hl hf.elems (fun i y t hy ht=>(hts i y t hy ht).r),.node f ts ?_ (fun t ht=>(kidT t ht).choose_spec.g),.node f ts ?_ (fun t ht=>(kidT t ht).choose_spec.h2),.node f ts ?_ (fun t ht=>(kidT t ht).choose_spec.h3)⟩
 ·refine ⟨fk.symm,by omega,by omega,?_,?_,?_,hlen,hf.bound⟩
  ·split
   ·rename_i h;exact (fn (by omega)).symm
   ·rename_i h;rw [hfdef];simp only [labOf];rw [if_neg];omega
  ·split
   ·rename_i h
    have h':x.k=10:=by omega
    obtain ⟨c0,_,_⟩:=hfn h';rw [hfdef];simp [labOf,h'];omega
   ·rename_i h
    have h':x.k≠10:=by omega
    rw [hfdef];simp [labOf,h']
  ·rw [hfdef]
   by_cases h9:x.k=9
   ·simp [labOf,h9]
   ·have:x.k.toNat≠9:=by omega
    simp [labOf,h9,this]
 ·have len_of: ∀(e:Int),xE x.k=e→0≤e→(ts.length:Int)=e:=by
   intro e h1 h0;rw [tl,<-h1];exact he (by rw [h1];exact h0)
  refine ⟨by omega,by omega,?_,?_,?_,?_,?_,?_,?_,?_⟩
  ·intro h
   have h':x.k=0:=by omega
   have:=len_of 0 (by rw [h'];rfl) (by omega);have e:yO dl x.k n o=17:=by rw [h'];rfl
   rw [e] at hn1 hn2;have:=hn2 (by omega);have:=fn (by omega);exact ⟨List.eq_nil_of_length_eq_zero (by omega),by omega⟩
  ·intro h
   have h':x.k=1:=by omega
   have e:yO dl x.k n o=dl:=by rw [h'];rfl
   rw [e] at hn1 hn2;have:=hn2 (by omega);have e1:=fn (by omega);refine ⟨by omega,?_⟩;rw [tl,hnm h',<-e1];rfl
  ·intro h
   have h':x.k=3:=by omega
   have:=len_of 0 (by rw [h'];rfl) (by omega);exact List.eq_nil_of_length_eq_zero (by omega)
  ·intro h
   have h':x.k=4\/x.k=5\/x.k=6\/x.k=8:=by omega
   have:=len_of 1 (by rcases h' with h' | h' | h' | h' <;>rw [h'] <;>rfl) (by omega);omega
  ·intro h
   have h':x.k=7:=by omega
   have:=len_of 2 (by rw [h'];rfl) (by omega);omega
  ·intro h
   have h':x.k=8:=by omega
   have e:yO dl x.k n o=3:=by rw [h'];rfl
   rw [e] at hn1 hn2;have:=hn2 (by omega);have:=fn (by omega);omega
  ·intro h
   have h':x.k=9:=by omega
   have en:f.names=xs.map (fun y=>y.nm.toList):=by rw [hfdef];simp [labOf,h']
   rw [en];refine ⟨by simp [hl],names_nodup (hst h'),fun m hm=> ?_⟩;obtain ⟨y,hy,rfl⟩:=List.mem_map.mp hm;obtain ⟨i,hi,rfl⟩:=List.mem_iff_getElem.mp hy;exact (hst h' i _ (by simp [hi])).1
  ·intro h
   have h':x.k=10:=by omega
   obtain ⟨c0,c1,c2⟩:=hfn h';have ec:f.cnt=x.c.toNat:=by rw [hfdef];simp [labOf,h']
   have ev:f.vari=x.v:=by rw [hfdef];simp [labOf,h']
   rw [ec,ev];refine ⟨by omega,fun hv=> ?_⟩;obtain ⟨C,Y,e1,e2,e3⟩:=c2 hv;have hC:C < xs.length:=(List.getElem?_eq_some_iff.mp e2).1;obtain ⟨t,ht⟩: ∃t,ts[C]?=some t:=⟨ts[C]'(by omega),by simp⟩;have hr:=(hts C Y t e2 ht).r;refine ⟨by omega,?_⟩;have:x.c.toNat - 1=C:=by omega
   rw [this,ht]
   cases hr with
   |var _ p h1 _ _ _=>omega
   |node _ g ys us hsh _ _ _=>exact ⟨g,us,rfl,by have:=hsh.k;omega⟩
 ·intro h;omega
 ·intro h
  have h':x.k=3:=by omega
  have e:yO dl x.k n o=o:=by rw [h'];rfl
  rw [e] at hn1 hn2;have:=hn1 (by omega);have:=hn2 (by omega);have:=fn (by omega);omega
theorem shaped_no {P:Prop}{w:World}{e:Ending}{w':World}(h:e= .returned (.bool false)/\Fr F0 w w'): ∃b,e= .returned (.bool b)/\Fr F0 w w'/\(b=true->P):=⟨false,h.1,h.2,fun h=>by cases h⟩
theorem shaped_any {w0:World}{da:Option Addr}{dl:Nat}(dc:Nat){ar:Nat->Nat}(n o:Nat)(hP:ParRow w0 da dl ar){x:TyV}(h:Raw w0 x):
 ∀w,Fr F0 w0 w->Calls Tryz.prog 30 #[.slice da dl dc,x.val,.int .i64 n,.int .i64 o] w fun e w'=> ∃b,e= .returned (.bool b)/\Fr F0 w w'/\(b=true->ShQ w0 dl ar n o x):=by
 induction h with
 |mk x xs hf _ ih=>
  intro w hw;have hkid:KidStep (ShQ w0 dl ar n o) da dl dc n o w xs:=fun i y hy w' hw'=>ih i y hy w' (hw.trans hw')
  have hPw:ParRow w da dl ar:=by
   rcases hP with h | ⟨b,o',h,hc⟩
   ·exact .inl h
   ·exact .inr ⟨b,o',h,fun i hi=>hw.cell id (hc i hi)⟩
  have hfw:=hf.keep hw;have endQ:= @shaped_end w0 dl ar n o x xs hf;obtain ⟨k,nn,c,v,a,len,cap,nm⟩:=x;unfold TyV.val;dsimp only at *;have hbl:len<=1954687338211:=hfw.bound.2.1;have fail2:=fun hv=>(shaped_fail2 da dl dc n o k (xE k) (yO dl k n o) nn c v a len cap nm w rfl rfl hv).mono fun e w' he=>shaped_no (P:=ShQ w0 dl ar n o ⟨k,nn,c,v,a,len,cap,nm⟩) he
  by_cases h1:k < 0
  ·exact fail2 (.inl h1)
  by_cases h2:10 < k
  ·exact fail2 (.inr (.inl ⟨by simpa using h1,h2⟩))
  have g1:decide (k < 0)=false:=by simpa using h1
  have g2:decide (10 < k)=false:=by simpa using h2
  by_cases h3:0<=xE k/\(len:Int)≠xE k
  ·exact fail2 (.inr (.inr (.inl ⟨g1,g2,h3.1,by simpa using h3.2⟩)))
  have p2:P2 k (xE k) len:=by
   refine ⟨g1,g2,?_⟩;by_cases he:0<=xE k
   ·exact .inr ⟨he,by have: ¬(len:Int)≠xE k:=fun h=>h3 ⟨he,h⟩;simpa using this⟩
   ·exact .inl (by simpa using he)
  by_cases h4: -1<=yO dl k n o/\nn < 0
  ·exact fail2 (.inr (.inr (.inr (.inl ⟨p2,h4.1,h4.2⟩))))
  by_cases h5:0<=yO dl k n o/\yO dl k n o<=nn
  ·exact fail2 (.inr (.inr (.inr (.inr ⟨p2,by omega,by simp;omega,h5.1,h5.2⟩))))
  have p4:P4 (yO dl k n o) nn:=by
   by_cases a1: -1<=yO dl k n o
   ·by_cases a2:0≤yO dl k n o
    ·exact .inr (.inr ⟨a1,by simp;omega,a2,by simp;omega⟩)
    ·exact .inr (.inl ⟨a1,by simp;omega,by simp;omega⟩)
   ·exact .inl ⟨by simp;omega,by simp;omega⟩
  have he:0<=xE k->(len:Int)=xE k:=fun he=>by by_cases h:(len:Int)=xE k;exact h;exact absurd ⟨he,h⟩ h3
  have hn1: -1<=yO dl k n o->0<=nn:=fun h=>by omega
  have hn2:0<=yO dl k n o->nn < yO dl k n o:=fun h=>by omega
  have hE:=endQ ⟨by omega,by omega⟩ he hn1 hn2;by_cases k9:k=9
  ·subst k9
   refine (shaped_struct (ShQ w0 dl ar n o) da dl dc n o nn c v a len cap nm xs w hfw.elems hfw.len hfw.bound hkid).mono ?_;rintro e w' ⟨b,h,hf',hb⟩;refine ⟨b,h,hf',fun ht=>hE (fun h=>by omega) (fun h=>by omega) (fun _ i X hX=>(hb ht i X hX).2 X hX) (fun i y hy=>(hb ht i y hy).1)⟩
  have LOOP:=fun hv=>shaped_loop (ShQ w0 dl ar n o) da dl dc ar n o k (xE k) (yO dl k n o) nn c v a len cap nm xs w hfw.elems hfw.len hfw.bound.2.1 rfl rfl hv hkid
  by_cases k1:k=1
  ·subst k1
   have e2:yO dl 1 n o=dl:=rfl;rw [e2] at hn1 hn2 h5;have nn0:=hn1 (by omega);have nnl:=hn2 (by omega);rcases hPw with h | ⟨b,o',rfl,hc⟩
   ·omega
   by_cases hl:len=ar nn.toNat
   ·refine (LOOP (.inr (.inl ⟨rfl,rfl,by rw [e2];omega,by simp;omega,by rw [e2];omega,by rw [e2];simp;omega,nn0,nnl,b,o',by simp [hl],rfl,hc _ (by omega)⟩))).mono ?_
    rintro e w' ⟨b,h,hf',hb⟩;exact ⟨b,h,hf',fun ht=>hE (fun _=>hl) (fun h=>by omega) (fun h=>by omega) (hb ht)⟩
   ·have hN:((nn.toNat:Nat):Int)=nn:=by omega
    have:=shaped_fail6 (some ⟨b,o',none⟩) dl dc ar n o nn.toNat c v a len cap nm w (.inr ⟨b,o',rfl,hc⟩) (by omega) (by simp;omega);rw [hN] at this;exact this.mono fun e w' he=>shaped_no he
  by_cases k10:k=10
  ·subst k10
   have fail8:=fun hv=>(shaped_fail8 da dl dc n o nn c v a len cap nm xs w hfw.elems hfw.len hfw.bound.2.1 hv).mono fun e w' he=>shaped_no (P:=ShQ w0 dl ar n o ⟨10,nn,c,v,a,len,cap,nm⟩) he
   by_cases c0:c < 0
   ·exact fail8 (.inl c0)
   by_cases c1:(len:Int) < c
   ·exact fail8 (.inr (.inl ⟨by simpa using c0,c1⟩))
   have d0:decide (c < 0)=false:=by simpa using c0
   have d1:decide ((len:Int) < c)=false:=by simpa using c1
   cases hv:v with
   |false=>
    subst hv;refine (LOOP (.inr (.inr (.inl ⟨rfl,rfl,rfl,d0,d1,rfl⟩)))).mono ?_;rintro e w' ⟨b,h,hf',hb⟩;exact ⟨b,h,hf',fun ht=>hE (fun h=>by omega) (fun _=>⟨by omega,by omega,fun h=>by cases h⟩) (fun h=>by omega) (hb ht)⟩
   |true=>
    subst hv;by_cases cz:c=0
    ·exact fail8 (.inr (.inr (.inl ⟨cz,rfl⟩)))
    obtain ⟨C,hC⟩: ∃C:Nat,c=(C:Int) + 1:=⟨(c - 1).toNat,by omega⟩;have hCl:C < len:=by omega
    have hCx:C < xs.length:=by rw [hfw.len];exact hCl
    by_cases k5:(xs[C]).k=5
    ·refine (LOOP (.inr (.inr (.inr ⟨rfl,rfl,rfl,rfl,C,xs[C],d0,d1,by simpa using cz,by rw [hC,show (C:Int) + 1 - 1=C by omega];unfold wrap64;omega,hCl,by simp [hCx],by simp [k5]⟩)))).mono ?_
     rintro e w' ⟨b,h,hf',hb⟩;exact ⟨b,h,hf',fun ht=>hE (fun h=>by omega) (fun _=>⟨by omega,by omega,fun _=>⟨C,xs[C],hC,by simp [hCx],k5⟩⟩) (fun h=>by omega) (hb ht)⟩
    ·exact fail8 (.inr (.inr (.inr ⟨C,xs[C],by omega,hCl,by simp [hCx],rfl,by simp [k5]⟩)))
  have e0:0<=xE k:=by simp only [xE];split;decide;split;decide;split;omega;decide
  refine (LOOP (.inl ⟨g1,g2,e0,by have:=he e0;simp [this],p4,by simpa using k1,by simpa using k10,by simpa using k9⟩)).mono ?_;rintro e w' ⟨b,h,hf',hb⟩;exact ⟨b,h,hf',fun ht=>hE (fun h=>absurd h k1) (fun h=>absurd h k10) (fun h=>absurd h k9) (hb ht)⟩
theorem size_step (k nn c:Int)(v:Bool)(a:Option Addr)(len cap:Nat)(nm:ByteArray)(xs:List TyV)(w:World)
 (hx:xB w F0 a xs) (hlx:xs.length=len) (hb:len<=1954687338211)
 (ih: ∀(i:Nat) (y:TyV),xs[i]?=some y→ ∀w',Fr F0 w w'→
  Calls Tryz.prog 31 #[.agg #[.int .i64 y.k,.int .i64 y.n,.int .i64 y.c,.bool y.v,.slice y.a y.len y.cap,.string y.nm]] w' fun e w''=> ∃z,e= .returned (.int .i64 z)/\Fr F0 w' w''):
 Calls Tryz.prog 31 #[.agg #[.int .i64 k,.int .i64 nn,.int .i64 c,.bool v,.slice a len cap,.string nm]] w fun e w'=> ∃z,e= .returned (.int .i64 z)/\Fr F0 w w':=by
 have HX:=hid hx;have HL:=hid hlx;have IH:=hid ih;clear hx hlx ih;go_enter Tryz.func31,Tryz.ntmps31;go_wp2;go_loopw [9,3] (fun i i2 wr=> ∃(j:Nat) (z:Int),j<=len/\i= .int .i64 j/\i2= .int .i64 z/\Fr F0 w wr) (fun i i2 _=>len - (intOf i).toNat)
 case atStart=>exact ⟨0,1,Nat.zero_le _,rfl,rfl,by repeat (first | exact Fr.refl _ _ | refine Fr.drawn ?_ _ | refine Fr.alloc ?_ _)⟩
 case round=>
  obtain ⟨j,z,hj,rfl,rfl,hf⟩:=hrel;have HF:=hid hf;clear hf;by_cases hlt:j < len
  ·obtain ⟨X,b2,o2,gX,rfl,e1⟩:=HX.out.elem (show j < xs.length by rw [HL.out];exact hlt)
   have e1:=e1.keep HF.out.sub;obtain ⟨_,x0,x1,x2,x3,x4,x5⟩:=e1;have hb2:b2 < wr.heap.size:=World.block_lt_of_cell? _ _ x0;have hle:(j:Int) < len:=by omega
   have CA:=hid (IH.out j X gX);clear gX;go_wp2_with fail
   refine (CA.out _ (HF.out.alloc _)).mono ?_;rintro e w2 ⟨zz,rfl,hf2⟩;have HW2:=hid ((HF.out.alloc (.cells #[.int .i64 X.k,.int .i64 X.n,.int .i64 X.c,.bool X.v,.slice X.a X.len X.cap,.string X.nm] 26)).trans hf2);clear hf2;go_wp2;go_roundw
   case rel=>exact ⟨j + 1,_,by omega,by go_num,rfl,HW2.out⟩
   case measure=>simp [intOf];omega
  ·go_wp2
   go_ret;exact ⟨z,rfl,HF.out⟩
theorem size_any {w0:World}{x:TyV}(h:Raw w0 x): ∀w,Fr F0 w0 w->Calls Tryz.prog 31 #[x.val] w fun e w'=> ∃z,e= .returned (.int .i64 z)/\Fr F0 w w':=by
 induction h with
 |mk x xs hf _ ih=>
  intro w hw;have hfw:=hf.keep hw;exact size_step _ _ _ _ _ _ _ _ xs w hfw.elems hfw.len hfw.bound.2.1 (fun i y hy w' hw'=>ih i y hy w' (hw.trans hw'))
def BW (w:World)(bb:Nat)(da:Option Addr)(dl dc:Nat):Prop:= ∃f:Int,w.heap[bb]?=some (.cells #[.slice da dl dc,.int .i64 f] 61 (0,0))
abbrev FB (bb:Nat):Nat->Prop:=fun b=>b=bb
def IntRow (w:World)(bb:Nat)(oa:Option Addr)(m:Nat):Prop:=m=0\/ ∃b o,oa=some ⟨b,o,none⟩/\b≠bb/\ ∀i,i < m-> ∃z,w.cell? ⟨b,o + i,none⟩=some (.int .i64 z)
def BPost (w:World)(bb:Nat)(da:Option Addr)(dl dc:Nat)(e:Ending)(w':World):Prop:= ∃z,e= .returned (.int .i64 z)/\Fr (FB bb) w w'/\BW w' bb da dl dc
theorem Fr.fb {bb:Nat}{a w:World}(h:Fr (FB bb) a w)(i:Nat)(u:Value):Fr (FB bb) a (w.setCell ⟨bb,i,none⟩ u):=h.setCell (.inl rfl) u
theorem BW.of {w:World}{bb:Nat}{da:Option Addr}{dl dc:Nat}{f:Int}(h:w.heap[bb]?=some (.cells #[.slice da dl dc,.int .i64 f] 61 (0,0))):BW w bb da dl dc:=⟨f,h⟩
theorem BW.lt {w:World}{bb:Nat}{da:Option Addr}{dl dc:Nat}(h:BW w bb da dl dc):bb < w.heap.size:=by
 obtain ⟨f,h⟩:=h;exact bl (zA h 0)
theorem BW.alloc {w:World}{bb:Nat}{da:Option Addr}{dl dc:Nat}(h:BW w bb da dl dc)(o:Obj):BW (w.alloc o) bb da dl dc:=by
 have:=h.lt;obtain ⟨f,h⟩:=h;exact ⟨f,(Below.heap_alloc _ _ _ this).trans h⟩
theorem BW.store {w:World}{bb:Nat}{da:Option Addr}{dl dc:Nat}(h:BW w bb da dl dc)(z:Int):BW (w.setCell ⟨bb,1,none⟩ (.int .i64 z)) bb da dl dc:=by
 obtain ⟨f,h⟩:=h;exact ⟨z,heap_setCell (a:=⟨bb,1,none⟩) h rfl⟩
theorem BW.drew {w:World}{bb:Nat}{da:Option Addr}{dl dc:Nat}(h:BW w bb da dl dc):BW w.drew bb da dl dc:=h
theorem build_zero (bb:Nat)(da:Option Addr)(dl dc:Nat)(f f1 k nn c:Int)(v:Bool)(a oa:Option Addr)(len cap m mc:Nat)(nm:ByteArray)(w:World)
 (hB:w.heap[bb]?=some (.cells #[.slice da dl dc,.int .i64 f] 61 (0,0))) (h1:wrap64 (f - 1)=f1) (h2:f1<=0):
 Calls Tryz.prog 32 #[.pointer (some ⟨bb,0,none⟩),.agg #[.int .i64 k,.int .i64 nn,.int .i64 c,.bool v,.slice a len cap,.string nm],.slice oa m mc] w (BPost w bb da dl dc):=by
 have HB:=hid hB;have q0:=zA hB 0;have q1:=zA hB 1;have fr1:=zC hB 1;have hbb:bb < w.heap.size:=World.block_lt_of_cell? _ _ (q0.trans rfl);clear hB;go_enter Tryz.func32,Tryz.ntmps32;go_wp2;go_ret;exact ⟨0,rfl,by repeat (first | exact Fr.refl _ _ | refine Fr.alloc ?_ _ | refine Fr.fb ?_ _ _),by repeat (first | exact ⟨f,HB.out⟩ | refine BW.alloc ?_ _ | refine BW.store ?_ _)⟩
theorem build_own (bb:Nat)(da:Option Addr)(dl dc:Nat)(f f1:Int)(N:Nat)(c:Int)(v:Bool)(a oa:Option Addr)(len cap m mc:Nat)(nm:ByteArray)(w:World)
 (hB:w.heap[bb]?=some (.cells #[.slice da dl dc,.int .i64 f] 61 (0,0))) (h1:wrap64 (f - 1)=f1) (h2: ¬f1<=0) (ho:IntRow w bb oa m):
 Calls Tryz.prog 32 #[.pointer (some ⟨bb,0,none⟩),.agg #[.int .i64 3,.int .i64 N,.int .i64 c,.bool v,.slice a len cap,.string nm],.slice oa m mc] w (BPost w bb da dl dc):=by
 have HB:=hid hB;have q0:=zA hB 0;have q1:=zA hB 1;have fr1:=zC hB 1;have hbb:bb < w.heap.size:=World.block_lt_of_cell? _ _ (q0.trans rfl);clear hB;by_cases hm:N < m
 ·obtain h | ⟨b,o,rfl,hne,hc⟩:=ho
  ·omega
  obtain ⟨z,hz⟩:=hc N hm;have hb:b < w.heap.size:=World.block_lt_of_cell? _ _ hz;have hm':(N:Int) < m:=by omega
  have hne': ¬bb=b:=fun h=>hne h.symm
  clear hc;go_enter Tryz.func32,Tryz.ntmps32;go_wp2;refine zP 12 (by kernel_rfl) ?_;simp only [List.take_succ_cons,List.take_zero,List.drop_succ_cons,List.drop_zero]
  repeat still_step
  refine wpStill_nil ?_;go_wp2;go_ret;exact ⟨_,rfl,by repeat (first | exact Fr.refl _ _ | refine Fr.alloc ?_ _ | refine Fr.drew ?_ | refine Fr.fb ?_ _ _),by repeat (first | exact ⟨f,HB.out⟩ | refine BW.alloc ?_ _ | refine BW.store ?_ _ | refine BW.drew ?_)⟩
 ·have hm': ¬(N:Int) < m:=by omega
  go_enter Tryz.func32,Tryz.ntmps32;go_wp2;go_ret;exact ⟨1,rfl,by repeat (first | exact Fr.refl _ _ | refine Fr.alloc ?_ _ | refine Fr.fb ?_ _ _),by repeat (first | exact ⟨f,HB.out⟩ | refine BW.alloc ?_ _ | refine BW.store ?_ _)⟩
def BKid (bb:Nat)(da:Option Addr)(dl dc:Nat)(oa:Option Addr)(m mc:Nat)(w:World)(xs:List TyV):Prop:=
 ∀(i:Nat) (y:TyV),xs[i]?=some y→ ∀w',Fr (FB bb) w w'→BW w' bb da dl dc→
  Calls Tryz.prog 32 #[.pointer (some ⟨bb,0,none⟩),.agg #[.int .i64 y.k,.int .i64 y.n,.int .i64 y.c,.bool y.v,.slice y.a y.len y.cap,.string y.nm],.slice oa m mc] w' (BPost w' bb da dl dc)
def BDecl (bb:Nat)(da:Option Addr)(dl dc:Nat)(nn:Int)(w:World):Prop:=
 ∃(N b o:Nat) (y:TyV),nn=(N:Int)∧N < dl∧da=some ⟨b,o,none⟩∧b≠bb∧At6 w b (o + N * 7 + 1) y∧
  ∀w' oa m mc,Fr (FB bb) w w'→BW w' bb da dl dc→IntRow w' bb oa m→
   Calls Tryz.prog 32 #[.pointer (some ⟨bb,0,none⟩),.agg #[.int .i64 y.k,.int .i64 y.n,.int .i64 y.c,.bool y.v,.slice y.a y.len y.cap,.string y.nm],.slice oa m mc] w' (BPost w' bb da dl dc)
theorem heap_set_alloc (w:World)(p:Addr)(u:Value)(o:Obj):((w.setCell p u).alloc o).heap[w.heap.size]?=some o:=by
 have h:=heap_alloc_new (w.setCell p u) o
 rwa [show (w.setCell p u).heap.size=w.heap.size by simp [World.setCell]] at h
theorem intRow_of_own {w:World}{bb B:Nat}{e:TypeId}{g cap n:Nat}{zs:List Int}(h:w.ownsRow B e 1 (.slice (some ⟨g,0,none⟩) n cap) n (zs.map fun z=> .int .i64 z))(hb:bb < B):IntRow w bb (some ⟨g,0,none⟩) n:=by
 by_cases h0:n=0
 ·exact .inl h0
 obtain ⟨hl,h | ⟨g',cap',cur,hv,hB,hg,hn,hm,hs,ht⟩⟩:=h
 ·exact absurd h.1 (by simp)
 have e1:=hv;simp at e1;obtain ⟨rfl,rfl⟩:=e1;refine .inr ⟨g,0,rfl,by omega,fun i hi=> ?_⟩;simp at hl;refine ⟨zs[i]'(by omega),?_⟩;have h1:(zs.map fun z=>Value.int .i64 z)[i]?=some (.int .i64 (zs[i]'(by omega))):=by simp [show i < zs.length by omega]
 rw [<-ht,List.getElem?_take,if_pos (by omega)] at h1;rw [zA hg,Nat.zero_add];simpa using h1
theorem row_of_own {w:World}{bb B:Nat}{e:TypeId}{u:Value}{n:Nat}{zs:List Int}(h:w.ownsRow B e 1 u n (zs.map fun z=> .int .i64 z))(hb:bb < B): ∃oa mc,u= .slice oa n mc/\IntRow w bb oa n:=by
 rcases h.2 with ⟨rfl,rfl⟩ | ⟨g,cap,_,rfl,_⟩
 ·exact ⟨none,0,rfl,.inl rfl⟩
 ·exact ⟨_,cap,rfl,intRow_of_own h hb⟩
theorem build_node (bb:Nat)(da:Option Addr)(dl dc:Nat)(f f1 k nn c:Int)(v:Bool)(a oa:Option Addr)(len cap m mc:Nat)(nm:ByteArray)(xs:List TyV)(w:World)
 (hB:w.heap[bb]?=some (.cells #[.slice da dl dc,.int .i64 f] 61 (0,0))) (h1:wrap64 (f - 1)=f1) (h2: ¬f1<=0) (h3:(k==3)=false)
 (hx:xB w (FB bb) a xs) (hlx:xs.length=len) (hb:len<=1954687338211) (ih:BKid bb da dl dc oa m mc w xs) (hd:(k==1)=false\/(k=1/\BDecl bb da dl dc nn w)):
 Calls Tryz.prog 32 #[.pointer (some ⟨bb,0,none⟩),.agg #[.int .i64 k,.int .i64 nn,.int .i64 c,.bool v,.slice a len cap,.string nm],.slice oa m mc] w (BPost w bb da dl dc):=by
 have HB:=hid hB;have HX:=hid hx;have HL:=hid hlx;have IH:=hid ih;have HD:=hid hd;have q0:=zA hB 0;have q1:=zA hB 1;have fr1:=zC hB 1;have hbb:bb < w.heap.size:=World.block_lt_of_cell? _ _ (q0.trans rfl);obtain ⟨i3,hi0,hz0,hz1,hz2⟩:=info_parts info3;clear hB hx hlx ih hd;go_enter Tryz.func32,Tryz.ntmps32;go_wp2
 go_loopw [52,7,8,11] (fun i n ov kv wr=> ∃(j:Nat) (z:Int) (zs:List Int),j≤len∧i= .int .i64 j∧n= .int .i64 z∧zs.length=j∧Fr (FB bb) w wr∧BW wr bb da dl dc∧
  wr.heap[w.heap.size]?=some (.cells #[.int .i64 k,.int .i64 nn,.int .i64 c,.bool v,.slice a len cap,.string nm] 26 (0,0))/\
  wr.ownsRow (w.heap.size + 1) 3 1 ov j (zs.map fun z=> .int .i64 z)) (fun i _ _ _ _=>len - (intOf i).toNat)
 case atStart=>
  exact ⟨0,1,[],Nat.zero_le _,rfl,rfl,rfl,by repeat (first | exact Fr.refl _ _ | refine Fr.alloc ?_ _ | refine Fr.fb ?_ _ _),by repeat (first | exact ⟨f,HB.out⟩ | refine BW.alloc ?_ _ | refine BW.store ?_ _),heap_set_alloc _ _ _ _,World.ownsRow_nil _ _ _ _⟩
 case round=>
  obtain ⟨j,z,zs,hj,rfl,rfl,hzs,hf,hbw,hbox,hown⟩:=hrel;have HF:=hid hf;have HBW:=hid hbw;have BOX:=hid hbox;have OWN:=hid hown;have ZS:=hid hzs;have hwb:w.heap.size < wr.heap.size:=bl (zA hbox 0);have bx0:=zA hbox 0;have bx1:=zA hbox 1;clear hf hbw hbox hown hzs;by_cases hlt:j < len
  ·obtain ⟨X,b2,o2,gX,rfl,e1⟩:=HX.out.elem (show j < xs.length by rw [HL.out];exact hlt)
   have e1:=e1.keep HF.out;obtain ⟨_,x0,x1,x2,x3,x4,x5⟩:=e1;have hb2:b2 < wr.heap.size:=World.block_lt_of_cell? _ _ x0;have hle:(j:Int) < len:=by omega
   have CA:=hid (IH.out j X gX);clear gX;go_wp2_with fail
   have FA:=hid (HF.out.alloc (.cells #[.int .i64 X.k,.int .i64 X.n,.int .i64 X.c,.bool X.v,.slice X.a X.len X.cap,.string X.nm] 26));refine (CA.out _ FA.out (HBW.out.alloc _)).mono ?_;rintro e w2 ⟨kz,rfl,hf2,hbw2⟩;have HF2:=hid (FA.out.trans hf2);have FW:=hid (((Fr.refl (FB bb) wr).alloc (.cells #[.int .i64 X.k,.int .i64 X.n,.int .i64 X.c,.bool X.v,.slice X.a X.len X.cap,.string X.nm] 26)).trans hf2)
   have HBW2:=hid hbw2;have nbx: ¬FB bb w.heap.size:=fun h=>by have:w.heap.size=bb:=h;omega
   have NBX:=hid nbx;have BOX2:=hid (FW.out.heap nbx BOX.out);have OB:=hid (World.ownsRow.lt OWN.out);have OWN2:=hid (zV OWN.out FW.out (fun g hg h=>by have:=(OB.out g hg).1;have:g=bb:=h;omega));have hw2:w.heap.size < w2.heap.size:=bl (zA BOX2.out 0);have HW2:=hid hw2;clear hf2 hbw2 nbx x0 x1 x2 x3 x4 x5 bx0 bx1;have N63:=hid (show j + 1<=maxLen by unfold maxLen;omega);have N8:=hid (show (j + 1) * 8<=140737488355328 by omega)
   have SZA:=hid (show w.heap.size + 1<=(w2.alloc (.cells #[.int .i64 kz] 3)).heap.size by have:=HW2.out;simp;omega);go_wp2_with (refine wpList_append_lies _ rfl _ _ 33 rfl (w.heap.size + 1) 3 i3 _ 1 8 under33 hi0 hz0 hz1 hz2 rfl (by omega) u8 j _ (by rfl) (OWN2.out.alloc _) ⟨w2.heap.size,0,none⟩ 1 1 [.int .i64 kz] (by rfl) (by rfl) (World.news_of_block (cs:= #[.int .i64 kz]) (t:=3) (fr:=(0,0)) (heap_alloc_new w2 _)) (by simp [Value.oneCell']) (by omega) N63.out N8.out SZA.out (w2.heap.size + 1) (by simp) ?_)
   intro g gcap w3 hown3 hgrow _ _;have OB2:=hid (World.ownsRow.lt OWN2.out);have F3:=hid ((HF2.out.alloc (.cells #[.int .i64 kz] 3)).transNew (Fr.of_grown hgrow) fun b hb=> .inr (by have:=(OB2.out b hb).1;omega));have BOX3:=hid ((Fr.of_grown hgrow).heap (b:=w.heap.size) (fun h=>by have:=(OB2.out _ h).1;omega) ((Below.heap_alloc _ _ _ HW2.out).trans BOX2.out))
   have BW3:=hid (show BW w3 bb da dl dc from by
    obtain ⟨f',hf'⟩:=HBW2.out.alloc (.cells #[.int .i64 kz] 3);exact ⟨f',(Fr.of_grown hgrow).heap (fun h=>by have:=(OB2.out _ h).1;omega) hf'⟩)
   have O3:=hid (show w3.ownsRow (w.heap.size + 1) 3 1 (.slice (some ⟨g,0,none⟩) (j + 1) gcap) (j + 1) ((zs ++ [kz]).map fun z=> .int .i64 z) by rw [List.map_append];exact hown3);clear hown3 hgrow;go_wp2;go_roundw
   case rel=>
    exact ⟨j + 1,_,zs ++ [kz],by omega,by go_num,rfl,by simp [ZS.out],F3.out,BW3.out,BOX3.out,O3.out⟩
   case measure=>simp [intOf];omega
  ·have hjl:j=len:=by omega
   clear q0 q1 fr1;obtain ⟨f',hf'⟩:=HBW.out;have q0:=zA hf' 0;have q1:=zA hf' 1;have hbr:bb < wr.heap.size:=by omega
   clear hjl;rcases HD.out with hk1 | ⟨rfl,hdecl⟩
   ·clear hf'
    go_wp2
    all_goals
     go_ret;exact ⟨_,rfl,HF.out,HBW.out⟩
   ·have HDE:=hid hdecl
    have HF':=hid hf';clear hdecl hf';by_cases hfp:0 < f'
    ·obtain ⟨N,b,o,y,rfl,hN,rfl,hne,hat,hcall⟩:=HDE.out
     obtain ⟨oa',mc',rfl,hint⟩:=row_of_own OWN.out (show bb < w.heap.size + 1 by omega);have HC:=hid hcall;have HI:=hid hint;obtain ⟨x0,x1,x2,x3,x4,x5⟩:=hat.keep HF.out hne;have hbb2:b < wr.heap.size:=World.block_lt_of_cell? _ _ x0;have hN':(N:Int) < dl:=by omega
     have NBX:=hid (show ¬FB bb w.heap.size from fun h=>by have:w.heap.size=bb:=h;omega);have NE:=hid (show ¬FB bb b from hne);clear hcall hint hat hne;go_wp2
     refine zG (fun w'=>Fr (FB bb) wr w'∧BW w' bb (some ⟨b,o,none⟩) dl dc)
      [(0,true),(1,true),(2,true),(3,true),(4,true),(5,true),(6,true),(7,true),(8,true),(9,true),(10,true),(11,true),(12,false),(13,false),(14,false)] [14] yE (by kernel_rfl) (by kernel_rfl) (by kernel_rfl) (by decide) ?_
     iterate 12
      (refine zH _ rfl ⟨(Fr.refl _ _).drew,HBW.out.drew⟩ (fun w' hS=>by
       obtain ⟨hF,f2,hB2⟩:=hS;have z0:=zA hB2 0;have z1:=zA (hF.heap NBX.out BOX.out) 1;have y0:=hF.cell NE.out x0;have y1:=hF.cell NE.out x1;have y2:=hF.cell NE.out x2;have y3:=hF.cell NE.out x3;have y4:=hF.cell NE.out x4;have y5:=hF.cell NE.out x5;clear hF hB2;go_simp;rfl) ?_)
     go_simp;refine zB rfl ?_;go_wp2_with fail
     refine (HC.out wr.drew _ _ _ HF.out.drew HBW.out HI.out).mono ?_;rintro e w2 ⟨kz,rfl,hf2,hbw2⟩;have HF2:=hid (HF.out.drew.trans hf2);have HG2:=hid ((Fr.refl (FB bb) wr).drew.trans hf2);have HBW2:=hid hbw2;clear hf2 hbw2;go_wp2;refine And.intro (fun _=>⟨HG2.out,HBW2.out⟩) ?_;refine zB rfl ?_;go_wp2;refine And.intro (fun _=>⟨HG2.out,HBW2.out⟩) ?_;refine zB rfl ?_;go_wp2;refine And.intro (fun h=>absurd h (by decide)) ?_
     refine zO (NoPanic.normal ?_);go_wp2
     all_goals
      go_ret;exact ⟨_,rfl,HF2.out,HBW2.out⟩
    ·go_wp2
     all_goals
      go_ret;exact ⟨_,rfl,HF.out,HBW.out⟩
theorem IntRow.keep {w w':World}{bb:Nat}{oa:Option Addr}{m:Nat}(h:IntRow w bb oa m)(f:Fr (FB bb) w w'):IntRow w' bb oa m:=by
 rcases h with h | ⟨b,o,ha,hne,h⟩
 ·exact .inl h
 ·exact .inr ⟨b,o,ha,hne,fun i hi=>by obtain ⟨z,hz⟩:=h i hi;exact ⟨z,f.cell hne hz⟩⟩
theorem build32_any {bb:Nat}{da:Option Addr}{dl dc:Nat}{D:zE}{ar:Nat->Nat}(hD: ∀i,i < dl->Uni.Good i ar (D i)): ∀K,K<=dl-> ∀(w0:World)(x:TyV)(t:Tm),RT w0 (FB bb) x t->Uni.Good K ar t->
 DRep w0 (FB bb) da dl D ar-> ∀w oa m mc,Fr (FB bb) w0 w->BW w bb da dl dc->IntRow w bb oa m->
 Calls Tryz.prog 32 #[.pointer (some ⟨bb,0,none⟩),x.val,.slice oa m mc] w (BPost w bb da dl dc):=by
 intro K
 induction K using Nat.strongRecOn with
 |ind K ihK=>
  intro hK w0 x t hr
  induction hr with
  |var x p h1 h2 h3 h4=>
   intro hg hd w oa m mc hf hb ho;obtain ⟨k,nn,c,v,a,len,cap,nm⟩:=x;dsimp only at *;subst h1 h3;obtain ⟨f,hB⟩:=hb;unfold TyV.val;dsimp only;by_cases hz:wrap64 (f - 1)<=0
   ·exact build_zero bb da dl dc f _ _ _ _ _ _ _ _ _ _ _ _ w hB rfl hz
   ·exact build_node bb da dl dc f _ _ _ _ _ _ _ _ _ _ _ _ [] w hB rfl hz rfl (.inl rfl) rfl (by omega) (fun i y h=>by simp at h) (.inl rfl)
  |node x f xs ts hs hl he _ ih=>
   intro hg hd w oa m mc hf hb ho;obtain ⟨fu,hB⟩:=hb;have kk:=hs.k;have kb:=hs.bound.2.1;have hlen:=hs.len;by_cases hz:wrap64 (fu - 1)<=0
   ·exact build_zero bb da dl dc fu _ _ _ _ _ _ _ _ _ _ _ _ w hB rfl hz
   by_cases h3:f.kind=3
   ·have hn:=hs.n
    rw [if_pos (by omega)] at hn;obtain ⟨k,nn,c,v,a,len,cap,nm⟩:=x;dsimp only at *;obtain rfl:k=3:=by omega
    subst hn;exact build_own bb da dl dc fu _ f.n _ _ _ _ _ _ _ _ _ w hB rfl hz ho
   ·have e3:(x.k==3)=false:=by
     have:x.k≠3:=by omega
     simpa using this
    refine build_node bb da dl dc fu _ x.k x.n x.c x.v x.a oa x.len x.cap m mc x.nm xs w hB rfl hz e3 (he.keep hf) hlen kb (fun i y hy w' hw' hb'=> ?_) ?_
    ·obtain ⟨u,hu⟩: ∃u,ts[i]?=some u:=⟨ts[i]'(by have:=(List.getElem?_eq_some_iff.mp hy).1;omega),by simp⟩
     exact ih i y u hy hu (hg.kid (List.mem_of_getElem? hu)) hd w' oa m mc (hf.trans hw') hb' (ho.keep hw')
    ·by_cases h1:f.kind=1
     ·obtain ⟨hn1,_⟩:=hg.lab.k1 h1
      have hn:=hs.n;rw [if_pos (by omega)] at hn;obtain h | ⟨b,o,ha,hne,hrow⟩:=hd.row
      ·omega
      obtain ⟨_,y,hy,hry⟩:=hrow f.n (by omega)
      exact .inr ⟨by omega,f.n,b,o,y,hn,by omega,ha,hne,hy.keep hf hne,fun w' oa' m' mc' hw' hb' ho'=>
       ihK f.n hn1 (by omega) w0 y (D f.n) hry (hD f.n (by omega)) hd w' oa' m' mc' (hf.trans hw') hb' ho'⟩
     ·refine .inl ?_
      have:x.k≠1:=by omega
      simpa using this
structure RawD (w:World) (da:Option Addr) (dl dc:Nat) (ps:List (Int × TyV)):Prop where
 row:dl=0\/ ∃b o,da=some ⟨b,o,none⟩/\ ∀(i:Nat) (p:Int × TyV),ps[i]?=some p->w.cell? ⟨b,o + i * 7,none⟩=some (.int .i64 p.1)/\At6 w b (o + i * 7 + 1) p.2
 len:ps.length=dl
 raw: ∀(i:Nat) (p:Int × TyV),ps[i]?=some p->Raw w p.2
 cap:dl<=dc
 cap2:dc<=maxLen
theorem RawD.keep {w w':World}{da:Option Addr}{dl dc:Nat}{ps:List (Int × TyV)}(h:RawD w da dl dc ps)(f:Fr F0 w w'):RawD w' da dl dc ps:=by
 refine ⟨?_,h.len,fun i p hp=>(h.raw i p hp).keep f,h.cap,h.cap2⟩;rcases h.row with h | ⟨b,o,ha,hr⟩
 ·exact .inl h
 ·exact .inr ⟨b,o,ha,fun i p hp=>⟨f.cell id (hr i p hp).1,(hr i p hp).2.keep f id⟩⟩
structure RawL (w:World) (la:Option Addr) (ll lc:Nat) (ys:List TyV):Prop where
 elems:xB w F0 la ys
 len:ys.length=ll
 raw: ∀(i:Nat) y,ys[i]?=some y->Raw w y
 small:ll<=1954687338211
def arOf (ps:List (Int × TyV))(i:Nat):Nat:=((ps[i]?.map fun p=>p.1.toNat)).getD 0
def DeclOk (w:World)(ps:List (Int × TyV))(j:Nat):Prop:=
 ∃p,ps[j]?=some p/\0<=p.1/\p.1<=8/\p.2.k≠1/\p.2.k≠3/\ShQ w j (arOf ps) 0 (arOf ps j) p.2
theorem arOf_some {ps:List (Int × TyV)}{i:Nat}{p:Int × TyV}(h:ps[i]?=some p):arOf ps i=p.1.toNat:=by simp [arOf,h]
theorem parRow_of {w:World}{da:Option Addr}{dl dc:Nat}{ps:List (Int × TyV)}(h:RawD w da dl dc ps){i:Nat}(hi:i<=dl)(hok: ∀j,j < i->DeclOk w ps j):ParRow w da i (arOf ps):=by
 rcases h.row with h0 | ⟨b,o,ha,hr⟩
 ·exact .inl (by omega)
 ·refine .inr ⟨b,o,ha,fun j hj=> ?_⟩
  obtain ⟨p,hp,p0,_⟩:=hok j hj;rw [(hr j p hp).1,arOf_some hp]
  congr 2;omega
theorem Good.up {nd nd':Nat}{ar:Nat->Nat}(hn:nd<=nd'){t:Tm}(h:Uni.Good nd ar t):Uni.Good nd' ar t:=by
 induction h with
 |var p=>exact .var p
 |node f ts hl _ ih=>
  obtain ⟨h1,h2,h3,h4,h5,h6,h7,h8,h9,h10⟩:=hl;exact .node f ts ⟨h1,h2,h3,fun h=>⟨Nat.lt_of_lt_of_le (h4 h).1 hn,(h4 h).2⟩,h5,h6,h7,h8,h9,h10⟩ ih
def tm0:Tm:= .node ⟨0,0,0,false,[]⟩ []
structure DeclT (w:World) (da:Option Addr) (dl:Nat) (ar:Nat→Nat) (D:zE):Prop where
 d:DRep w F0 da dl D ar
 good: ∀i,i < dl->Uni.Good i ar (D i)
 goodD:xF dl ar D
 ar8: ∀i,i < dl->ar i<=8
 ok:zZ D
 out: ∀i,dl<=i->D i=tm0
theorem declT_of {w:World}{da:Option Addr}{dl dc:Nat}{ps:List (Int × TyV)}(h:RawD w da dl dc ps)(h16:dl<=16)(hok: ∀j,j < dl->DeclOk w ps j): ∃D,DeclT w da dl (arOf ps) D:=by
 have hex: ∀j,∃t,(j < dl→ ∃p,ps[j]?=some p∧ShapedT w j (arOf ps) 0 (arOf ps j) p.2 t∧p.1.toNat≤8∧p.2.k≠1∧p.2.k≠3)∧(dl≤j→t=tm0):=by
  intro j;by_cases hj:j < dl
  ·obtain ⟨p,hp,p0,p8,k1,k3,t,ht⟩:=hok j hj
   exact ⟨t,fun _=>⟨p,hp,ht,by omega,k1,k3⟩,fun h=>by omega⟩
  ·exact ⟨tm0,fun h=>absurd h hj,fun _=>rfl⟩
 obtain ⟨D,hD⟩:=Classical.axiomOfChoice hex;refine ⟨D,⟨?_,fun i hi=> ?_,fun i hi=> ?_,h16⟩,fun i hi=> ?_,fun i=> ?_,fun i hi=> ?_,fun i=> ?_,fun i hi=>(hD i).2 hi⟩
 ·rcases h.row with h0 | ⟨b,o,ha,hr⟩
  ·exact .inl h0
  ·refine .inr ⟨b,o,ha,id,fun i hi=> ?_⟩
   obtain ⟨p,hp,_,p0,_⟩:=hok i hi;obtain ⟨p',hp',ht,_⟩:=(hD i).1 hi;obtain rfl:p'=p:=by rw [hp] at hp';exact (Option.some.inj hp').symm
   refine ⟨?_,p'.2,(hr i p' hp).2,ht.r⟩;rw [(hr i p' hp).1,arOf_some hp];obtain ⟨q,hq,q0,_⟩:=hok i hi;rw [hp] at hq;cases hq
   congr 2;omega
 ·obtain ⟨p,hp,ht,_⟩:=(hD i).1 hi;exact ht.h3
 ·obtain ⟨p,hp,ht,_⟩:=(hD i).1 hi;exact ht.h2
 ·obtain ⟨p,hp,ht,_⟩:=(hD i).1 hi;exact ht.g
 ·by_cases hi:i < dl
  ·obtain ⟨p,hp,ht,_⟩:=(hD i).1 hi
   exact Good.up (by omega) ht.g
  ·rw [(hD i).2 (by omega)]
   exact .node _ _ ⟨by decide,by decide,fun _=>⟨rfl,by decide⟩,fun h=>absurd h (by decide),fun _=>rfl,fun h=>absurd h (by decide),fun h=>absurd h (by decide),fun h=>absurd h (by decide),fun h=>absurd h (by decide),fun h=>absurd h (by decide)⟩ (fun t ht=>by cases ht)
 ·obtain ⟨p,hp,ht,p8,_⟩:=(hD i).1 hi;rw [arOf_some hp];exact p8
 ·by_cases hi:i < dl
  ·obtain ⟨p,hp,ht,p8,k1,k3⟩:=(hD i).1 hi
   have hh:=ht.h2
   cases hr:D i with
   |var q=>rw [hr] at hh;cases hh with | var _ h=>exact absurd (h rfl) (by omega)
   |node f bs=>
    have hr':=ht.r;rw [hr] at hr'
    cases hr' with
    |node _ _ xs _ hs _ _ _=>
     refine ⟨f,bs,rfl,?_⟩;have:=hs.k;have:=hs.k2;omega
  ·exact ⟨_,_,(hD i).2 (by omega),.inl rfl⟩
end Go.Proofs.YtpekidjfbinekaaGreatDoor
