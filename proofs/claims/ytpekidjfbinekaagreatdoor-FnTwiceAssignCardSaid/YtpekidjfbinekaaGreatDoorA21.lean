/- I1, I2, I3, I4 -/
import Derived.Test.YtpekidjfbinekaaGreatDoorA20
set_option maxRecDepth 100000
set_option maxHeartbeats 60000000
set_option linter.all false
namespace Go.Proofs.YtpekidjfbinekaaGreatDoor
open Go.RowKit Uni
structure VarRow (w:World) (pk:Value) (B:Nat) (nm:Nat→ByteArray) (vs:List Value) (o:Value) (j:Nat) (ps:List Nat):Prop where
 len:ps.length=j
 own:w.ownsRow B 133 1 o j (ps.map fun b=> .pointer (some ⟨b,0,none⟩))
 at_: ∀(k vb:Nat) (v:Value),ps[k]?=some vb->vs[k]?=some v->B<=vb/\ ∃p0 kk,w.heap[vb]?=some (.cells #[p0,pk,.string (nm k),v,kk,.bool false] 201 (0,0))
 nil:j=0->o= .slice none 0 0
theorem VarRow.start (w:World)(pk:Value)(B:Nat)(nm:Nat->ByteArray)(vs:List Value):VarRow w pk B nm vs (.slice none 0 0) 0 []:=
 ⟨rfl,World.ownsRow_nil _ _ _ _,fun k vb v h=>by simp at h,fun _=>rfl⟩
theorem VarRow.keep {w w':World}{pk:Value}{B:Nat}{nm:Nat->ByteArray}{vs:List Value}{o:Value}{j:Nat}{ps:List Nat}(h:VarRow w pk B nm vs o j ps)(f:Fr F0 w w'):VarRow w' pk B nm vs o j ps:=
 ⟨h.len,zV h.own f (fun _ _ h=>h),fun k vb v h1 h2=>by obtain ⟨h3,p0,kk,h4⟩:=h.at_ k vb v h1 h2;exact ⟨h3,p0,kk,f.heap id h4⟩,h.nil⟩
theorem VarRow.next {w w2 w3:World}{pk:Value}{B:Nat}{nm:Nat->ByteArray}{vs:List Value}{o o':Value}{j:Nat}{ps:List Nat}(h:VarRow w pk B nm vs o j ps)(f:Fr F0 w w2){v p0 kk:Value}{vb:Nat}(hv:vs[j]?=some v)(hB:B<=vb)
 (hb:w2.heap[vb]?=some (.cells #[p0,pk,.string (nm j),v,kk,.bool false] 201 (0,0))) (g:Fr (fun b=>o.ownBlock=some b) w2 w3) (hown:w3.ownsRow B 133 1 o' (j + 1) (ps.map (fun b=>Value.pointer (some ⟨b,0,none⟩)) ++ [.pointer (some ⟨vb,0,none⟩)])):VarRow w3 pk B nm vs o' (j + 1) (ps ++ [vb]):=by
 have h2:=h.keep f
 have hne: ∀ {x:Nat} {c:Array Value},w2.heap[x]?=some (.cells c 201 (0,0))→ ¬o.ownBlock=some x:=fun {x c} hx ho=>by
  rcases (wB h2.own).2 with ⟨_,rfl⟩ | ⟨g',_,rfl,_,_,_,⟨cs,hcs⟩,_⟩
  ·cases ho
  ·cases ho
   rw [hcs] at hx;cases hx
 refine ⟨by simp [h.len],by simpa using hown,fun k x u hk hu=> ?_,fun h=>absurd h (by omega)⟩;by_cases hkj:k < j
 ·rw [List.getElem?_append_left (by rw [h.len];exact hkj)] at hk
  obtain ⟨h3,p0,kk,h4⟩:=h2.at_ k x u hk hu;exact ⟨h3,p0,kk,g.heap (hne h4) h4⟩
 ·have hkj:k=j:=by
   have:=(List.getElem?_eq_some_iff.1 hk).1;simp [h.len] at this;omega
  subst hkj;rw [List.getElem?_append_right (by rw [h.len];exact Nat.le_refl _),h.len,Nat.sub_self] at hk;cases hk
  rw [hv] at hu;cases hu
  exact ⟨hB,p0,kk,g.heap (hne hb) hb⟩
theorem VarRow.fin {w:World}{E:GEnv}{B:Nat}{nm:Nat->ByteArray}{vs:List Value}{o:Value}{ps:List Nat}(h:VarRow w E.pk B nm vs o vs.length ps)(hA: ∀b,E.A b->b < B)(nms:List (List UInt8))(hn: ∀(k:Nat)(n':List UInt8),nms[k]?=some n'->(nm k).toList=n'/\ ∃c:UInt8,n'= [c]/\65<=c/\c<=90):
 ∃a c,o= .slice a vs.length c/\xJ w E a vs nms/\vs.length<=c/\c<=maxLen/\(vs.length=0->a=none/\c=0):=by
 rcases (wB h.own).2 with ⟨hps,rfl⟩ | ⟨g,cap,rfl,hg0,hc1,hc2,hcs,hce⟩
 ·have:vs= []:=by
   have:=h.len;rw [List.map_eq_nil_iff] at hps;rw [hps] at this;exact List.eq_nil_of_length_eq_zero this.symm
  subst this;exact ⟨none,0,rfl,.inl rfl,Nat.le_refl _,Nat.zero_le _,fun _=>⟨rfl,rfl⟩⟩
 ·refine ⟨_,cap,rfl,.inr ⟨g,0,rfl,fun ha=>by have:=hA g ha;omega,hcs,fun i v hv=> ?_⟩,hc1,hc2,fun hz=>by have:=h.nil hz;cases this⟩
  have hi:=(List.getElem?_eq_some_iff.1 hv).1;obtain ⟨vb,hvb⟩: ∃vb,ps[i]?=some vb:=⟨ps[i]'(by rw [h.len];exact hi),by simp⟩;obtain ⟨h1,p0,kk,h2⟩:=h.at_ i vb v hvb hv;exact ⟨vb,p0,kk,nm i,hce i _ (by rw [List.getElem?_map,hvb];rfl),fun ha=>by have:=hA vb ha;omega,h2,fun n' hn'=>hn i n' hn'⟩
theorem under154b:Tryz.prog.underlying 154=some (.slice 133):=by kernel_rfl
theorem info133b:(Tryz.prog.info? 133).map (fun i=>(i.zero,i.size,i.bytes))=some (some (.pointer none),1,8):=by kernel_rfl
theorem tuple_any {E:GEnv}{bb:Nat}{da:Option Addr}{dl dc:Nat}{ar:Nat->Nat}(w:World)(hB:BEnv w E bb da dl dc ar)(a:Option Addr)(n c:Nat)(vs:List Value)(hl:vs.length=n)(hat:vs= []\/ ∃b off,a=some ⟨b,off,none⟩/\ ∀(i:Nat)(v:Value),vs[i]?=some v->w.cell? ⟨b,off + i,none⟩=some v)
 (hty: ∀v,v∈vs-> ∃ty pv,v= .iface ty pv) (hn:n<=1954687338211):
 Calls Tryz.prog 87 #[.pointer (some ⟨bb,0,none⟩),.slice a n c] w fun e w'=> ∃p,e= .returned (.pointer p)/\yZ w' E (.pointer p) vs/\Fr F0 w w':=by
 obtain ⟨i0,hi0,hz0,hz1,hz2⟩:=info_parts info133b;obtain ⟨na,nc,ta,tc,hbb,_⟩:=hB.b;obtain ⟨pb,_,_,_,hpe,_⟩:=hB.pk;have HX:=hid hat;have HL:=hid hl;have HA:=hid hB.env.below;have BB:=hid hbb;have PE:=hid hpe;have TY:=hid hty;clear hat hl hB hbb hpe hty;go_enter Tryz.func87,Tryz.ntmps87;go_wp2_with fail
 go_loopw [5,7,10] (fun o _ i wr=> ∃(j:Nat) (ps:List Nat),j<=n/\i= .int .i64 j/\Fr F0 w wr/\VarRow wr E.pk w.heap.size (fun _=>⟨#[]⟩) vs o j ps) (fun _ _ i _=>n - (intOf i).toNat)
 case atStart=>exact ⟨0,[],Nat.zero_le _,rfl,Fr.refl _ _,VarRow.start _ _ _ _ _⟩
 case round=>
  obtain ⟨WX,rfl⟩: ∃WX:World,WX=wr:=⟨wr,rfl⟩;obtain ⟨ow,rfl⟩: ∃ow:Value,ow=u5:=⟨_,rfl⟩;obtain ⟨j,ps,hj,rfl,hfr,hrow⟩:=hrel;have FX:=hid hfr;have RX:=hid hrow;clear hfr hrow;by_cases hlt:j < n
  ·have hle:(j:Int) < n:=by omega
   obtain ⟨v,hv⟩: ∃v,vs[j]?=some v:=⟨vs[j]'(by rw [HL.out];exact hlt),by simp⟩;obtain ⟨b,off,rfl,hcc⟩:=HX.out.resolve_left (fun h=>by have:=HL.out;rw [h] at this;simp at this;omega);obtain ⟨ty,pv,rfl⟩:=TY.out v (List.mem_of_getElem? hv);have c1:=FX.out.cell id (hcc j _ hv);have szb:=World.block_lt_of_cell? _ _ c1;dsimp only at szb;have hb1:=FX.out.heap id BB.out;rw [PE.out] at hb1;have qb:=zA hb1;have szbb:=zF hb1
   have HV:=hid hv;clear hv hcc hb1;go_wp2_with fail
   refine (newParam_any _ _ _ _ _ _ ⟨_,rfl⟩).mono ?_;rintro e w2 ⟨rfl,hw2⟩;obtain ⟨b2,f2,s2⟩:=Laid.facts hw2;have B2:=hid b2;have F2:=hid f2;have SZ:=hid (show w.heap.size<=WX.heap.size from FX.out.size);have OA:=hid ((RX.out.keep f2).own.alloc (.cells #[.pointer (some ⟨WX.heap.size,0,none⟩)] 133));have N63:=hid (show j + 1<=maxLen by unfold maxLen;omega);have N72:=hid (show (j + 1) * 8<=140737488355328 by omega)
   have SZ2:=hid (show w.heap.size<=(w2.alloc (.cells #[.pointer (some ⟨WX.heap.size,0,none⟩)] 133)).heap.size by have:=SZ.out;simp;omega);clear b2 f2 s2 hw2 qb szbb c1 szb;go_wp2_with (refine wpList_append_lies _ rfl _ _ 154 rfl w.heap.size 133 i0 _ 1 8 under154b hi0 hz0 hz1 hz2 rfl (by omega) ow j _ (by rfl) OA.out ⟨w2.heap.size,0,none⟩ 1 1 [.pointer (some ⟨WX.heap.size,0,none⟩)] (by rfl) (by rfl) (World.news_of_block (cs:= #[.pointer (some ⟨WX.heap.size,0,none⟩)]) (t:=133) (fr:=(0,0)) (heap_alloc_new w2 _)) (by simp [Value.oneCell']) (by omega) N63.out N72.out SZ2.out (w2.heap.size + 1) (by simp) ?_)
   intro g cap w3 hown3 hgrow hg1 hg2;have F23:Fr (fun b=>ow.ownBlock=some b) w2 w3:=(Fr.alloc (Fr.refl _ w2) _).trans (Fr.of_grown hgrow);have HF3:=hid ((FX.out.trans F2.out).transNew F23 (fun b hb=> .inr (World.ownsRow.lt RX.out.own b hb).1));have NX:=hid (RX.out.next F2.out HV.out SZ.out (by rw [PE.out];exact B2.out) F23 hown3);clear hown3 F23 hgrow hg1 hg2;go_wp2;go_roundw
   case rel=>exact ⟨j + 1,_,by omega,by go_num,HF3.out,NX.out⟩
   case measure=>simp [intOf];omega
  ·have hjn:j=n:=by omega
   subst hjn;have hle: ¬(j:Int) < j:=by omega
   have hl:=HL.out;subst hl;obtain ⟨a',c',rfl,hva,hc1,hc2,hz⟩:=RX.out.fin HA.out [] (fun k n' h=>by simp at h);have VA:=hid hva;have HZ:=hid hz;clear hva hz;go_wp2_with fail
   by_cases h0:vs.length=0
   ·obtain ⟨rfl,rfl⟩:=HZ.out h0
    have hvs:vs= []:=List.eq_nil_of_length_eq_zero h0;subst hvs;refine (newTuple_none _ _ _).mono ?_;rintro e w2 ⟨rfl,rfl⟩;go_wp2;go_ret;exact ⟨none,rfl,.inl ⟨rfl,rfl⟩,FX.out⟩
   ·refine (newTuple_some _ _ _ _ (by omega)).mono ?_
    rintro e w2 ⟨rfl,hw2⟩;obtain ⟨b2,f2,s2⟩:=Laid.facts hw2;have B2:=hid b2;have F2:=hid f2;clear b2 f2 s2 hw2;go_wp2;go_ret;refine ⟨_,rfl,.inr ⟨_,_,_,fun h=>h0 (by rw [h];rfl),rfl,fun ha=> ?_,B2.out,hc1,hc2,VA.out.keep F2.out.sub⟩,FX.out.trans F2.out⟩;have h1:=HA.out _ ha;have h2:=FX.out.size;omega
theorem name57_any {E:GEnv}{bb:Nat}(w:World)(c0 c2 c3:Value)(nm:ByteArray)(pb:Nat)(hpk:E.pk= .pointer (some ⟨pb,0,none⟩))(hb:w.heap[bb]?=some (.cells #[c0,E.pk,c2,c3] 94 (0,0))):
 Calls Tryz.prog 57 #[.pointer (some ⟨bb,0,none⟩),.string nm] w (Laid w #[.int .i64 0,E.pk,.string nm,.nilIface] 194):=by
 rw [hpk] at hb ⊢;have q:=zA hb;have sz:=zF hb;clear hb hpk;go_enter Tryz.func57,Tryz.ntmps57;go_wp2_with fail
 refine (newTypeName_any _ _ _ _).mono ?_;rintro e w2 ⟨rfl,rfl⟩;go_wp2;go_ret;exact ⟨rfl,rfl⟩
theorem Shape.norm {x:TyV}{f:Lab}{xs:List TyV}(h:Shape x f xs):Norm f:=by
 refine ⟨fun h0 h1 h3 h6 h8=> ?_,fun h10=> ?_,fun h9=> ?_⟩
 ·have:=h.n
  rw [if_neg (by omega)] at this;exact this
 ·have:=h.c
  rw [if_neg h10] at this;exact this
 ·have:=h.names
  rw [if_neg h9] at this;exact this
theorem Shape.normT {x:TyV}{f:Lab}{xs:List TyV}(h:Shape x f xs){ts:List Tm}(hl:ts.length<=1954687338211)(h0:f.kind=0->f.n < 17)(h8:f.kind=8->f.n < 3):NormT f ts:=⟨h.norm,hl,h0,h8⟩
section
variable {E:GEnv}{bb:Nat}{da:Option Addr}{dl dc:Nat}{ar:Nat→Nat}(w:World)(hB:BEnv w E bb da dl dc ar)
 include hB
theorem typ_basic (x:TyV)(f:Lab)(xs:List TyV)(hs:Shape x f xs)(hk:f.kind=0)(hn:f.n < 17)(ov:Value):Calls Tryz.prog 60 #[.pointer (some ⟨bb,0,none⟩),x.val,ov] w (xZ w E (.node f [])):=by
 have hxk:x.k=0:=by rw [hs.k,hk];rfl
 have hxn:x.n=f.n:=by have:=hs.n;rw [if_pos (by omega)] at this;exact this
 have HA:=hid hB.env.below;have NM:=hid (hs.normT (ts:= []) (by simp) (fun _=>hn) (fun h=>by omega));have HK:=hid hk;clear hB hs hk;obtain ⟨xk,xn,xc,xv,xa,xlen,xcap,xnm⟩:=x;dsimp only at hxk hxn;subst hxk hxn;unfold TyV.val;dsimp only;go_enter Tryz.func60,Tryz.ntmps60;go_wp2_with fail
 refine (basic_any _ f.n hn).mono ?_;rintro e w1 ⟨b,i,nm,rfl,hb,hf,hz⟩;have HB1:=hid hb;have HF:=hid (((Fr.refl F0 w).alloc _).trans hf);have HZ:=hid hz;clear hb hf hz;go_wp2;go_ret;refine ⟨_,_,rfl,.basic f b i nm HK.out NM.out (fun ha=> ?_) HB1.out,HF.out⟩;have h1:=HA.out b ha;have h2:=HZ.out;simp at h2;omega
theorem typ_var (x:TyV)(p:Nat)(hxk:x.k=2)(hxn:x.n=p)(hp:p < E.n)(ov:Value):Calls Tryz.prog 60 #[.pointer (some ⟨bb,0,none⟩),x.val,ov] w (xZ w E (.var p)):=by
 obtain ⟨na,nc,ta,tc,hbb,_,htp⟩:=hB.b;obtain ⟨tb,to,rfl,htc⟩:=htp.resolve_left (by omega);have c1:=htc p hp;have lb:=zF hbb;have qb:=zA hbb;have sz:=World.block_lt_of_cell? _ _ c1;dsimp only at sz;have hle:(p:Int) < E.n:=by omega
 clear htc htp hbb hB;obtain ⟨xk,xn,xc,xv,xa,xlen,xcap,xnm⟩:=x;dsimp only at hxk hxn;subst hxk hxn;unfold TyV.val;dsimp only;go_enter Tryz.func60,Tryz.ntmps60;have qa:=zA (heap_alloc_new w (.cells #[.int .i64 2,.int .i64 p,.int .i64 xc,.bool xv,.slice xa xlen xcap,.string xnm] 26));go_wp2_with fail
 go_quiet (fail);go_wp2;go_ret;exact ⟨_,_,rfl,.var p hp,((Fr.refl F0 w).alloc _).drawn _⟩
theorem typ_own (x:TyV)(i:Nat)(hxk:x.k=3)(hxn:x.n=i)(oa:Option Addr)(ol oc:Nat)(os:List Value)(us:List Tm)(hO:TysAt w E oa ol oc os us)(u:Tm)(hu:us[i]?=some u):Calls Tryz.prog 60 #[.pointer (some ⟨bb,0,none⟩),x.val,.slice oa ol oc] w (xZ w E u):=by
 have hi:i < ol:=by rw [<-hO.len2];exact (List.getElem?_eq_some_iff.1 hu).1
 obtain ⟨v,hv⟩: ∃v,os[i]?=some v:=⟨os[i]'(by rw [hO.len];exact hi),by simp⟩;obtain ⟨b,off,rfl,_,_,hc⟩:=hO.at_.resolve_left (fun h=>by rw [h] at hv;simp at hv);have hp:=hO.pt i v u hv hu;obtain ⟨a,_,_,rfl,_⟩:=PT.form hB.env hp;have c1:=hc i _ hv;have sz:=World.block_lt_of_cell? _ _ c1;dsimp only at sz;have hle:(i:Int) < ol:=by omega
 have HP:=hid hp;clear hc hB hO hp hv hu;obtain ⟨xk,xn,xc,xv,xa,xlen,xcap,xnm⟩:=x;dsimp only at hxk hxn;subst hxk hxn;unfold TyV.val;dsimp only;have FA:=hid ((Fr.refl F0 w).alloc (.cells #[.int .i64 3,.int .i64 i,.int .i64 xc,.bool xv,.slice xa xlen xcap,.string xnm] 26));go_enter Tryz.func60,Tryz.ntmps60;go_wp2;go_ret;exact ⟨_,_,rfl,HP.out.keep FA.out.sub,FA.out⟩
end
section
variable {E:GEnv}{bb:Nat}{da:Option Addr}{dl dc:Nat}{ar:Nat→Nat}(w:World)(hB:BEnv w E bb da dl dc ar)
 include hB
theorem typ_ptr (x:TyV)(f:Lab)(xs:List TyV)(hs:Shape x f xs)(hk:f.kind=4)(ov:Value)(u:Tm)(hall: ∀w',Fr F0 w w'->Calls Tryz.prog 77 #[.pointer (some ⟨bb,0,none⟩),.slice x.a x.len x.cap,ov] w' (vB w' E [u])):
 Calls Tryz.prog 60 #[.pointer (some ⟨bb,0,none⟩),x.val,ov] w (xZ w E (.node f [u])):=by
 have hxk:x.k=4:=by rw [hs.k,hk];rfl
 have HA:=hid hB.env.below;have NM:=hid (hs.normT (ts:= [u]) (by simp) (fun h=>by omega) (fun h=>by omega));have HK:=hid hk;have ALL:=hid hall;have HE:=hid hB.env;clear hB hs hk hall;obtain ⟨xk,xn,xc,xv,xa,xlen,xcap,xnm⟩:=x;dsimp only at hxk ALL ⊢;subst hxk;unfold TyV.val;dsimp only;have FA:=hid ((Fr.refl F0 w).alloc (.cells #[.int .i64 4,.int .i64 xn,.int .i64 xc,.bool xv,.slice xa xlen xcap,.string xnm] 26))
 have XA:=hid (heap_alloc_new w (.cells #[.int .i64 4,.int .i64 xn,.int .i64 xc,.bool xv,.slice xa xlen xcap,.string xnm] 26));go_enter Tryz.func60,Tryz.ntmps60;go_wp2_with fail
 refine (ALL.out _ FA.out).mono ?_;rintro e w1 ⟨a,n,c,vs,rfl,hT,hf⟩;have F1:=hid (FA.out.trans hf);have X1:=hid (hf.heap id XA.out);have hn:n=1:=hT.len2.symm;subst hn;obtain ⟨v0,hv0⟩: ∃v,vs[0]?=some v:=⟨vs[0]'(by rw [hT.len];decide),by simp⟩;obtain ⟨b,off,rfl,_,_,hc⟩:=hT.at_.resolve_left (fun h=>by rw [h] at hv0;simp at hv0);have hp0:=hT.pt 0 v0 u hv0 rfl;obtain ⟨pa0,_,_,rfl,_⟩:=PT.form (HE.out.keep F1.out.sub) hp0
 have c0:=hc 0 _ hv0;have HP0:=hid hp0;have C0:=hid c0;rw [Nat.add_zero] at c0;have sz:=World.block_lt_of_cell? _ _ c0;dsimp only at sz;have sx:=zF X1.out;clear hT hc hf hp0 hv0;have qx:=zA X1.out 0;go_wp2_with fail
 refine (newPointer_any _ _ _).mono ?_;rintro e w2 ⟨rfl,hw2⟩;obtain ⟨hbl,hfl,hsl⟩:=Laid.facts hw2;have SZL:=hid (Nat.le_refl w1.heap.size);have P2:=hid (HP0.out.keep (hfl.sub));clear hw2 c0 qx sz sx;have FW:=hid ((F1.out).trans hfl);have BL:=hid hbl;clear hfl hbl hsl;go_wp2;go_ret;refine ⟨_,_,rfl,.ptr f _ _ _ HK.out NM.out (fun ha=> ?_) BL.out P2.out,FW.out⟩;have h1:=HA.out _ ha;have h2:=F1.out.size
 have h3:=SZL.out;omega
theorem typ_slice (x:TyV)(f:Lab)(xs:List TyV)(hs:Shape x f xs)(hk:f.kind=5)(ov:Value)(u:Tm)(hall: ∀w',Fr F0 w w'->Calls Tryz.prog 77 #[.pointer (some ⟨bb,0,none⟩),.slice x.a x.len x.cap,ov] w' (vB w' E [u])):
 Calls Tryz.prog 60 #[.pointer (some ⟨bb,0,none⟩),x.val,ov] w (xZ w E (.node f [u])):=by
 have hxk:x.k=5:=by rw [hs.k,hk];rfl
 have HA:=hid hB.env.below;have NM:=hid (hs.normT (ts:= [u]) (by simp) (fun h=>by omega) (fun h=>by omega));have HK:=hid hk;have ALL:=hid hall;have HE:=hid hB.env;clear hB hs hk hall;obtain ⟨xk,xn,xc,xv,xa,xlen,xcap,xnm⟩:=x;dsimp only at hxk ALL ⊢;subst hxk;unfold TyV.val;dsimp only;have FA:=hid ((Fr.refl F0 w).alloc (.cells #[.int .i64 5,.int .i64 xn,.int .i64 xc,.bool xv,.slice xa xlen xcap,.string xnm] 26))
 have XA:=hid (heap_alloc_new w (.cells #[.int .i64 5,.int .i64 xn,.int .i64 xc,.bool xv,.slice xa xlen xcap,.string xnm] 26));go_enter Tryz.func60,Tryz.ntmps60;go_wp2_with fail
 refine (ALL.out _ FA.out).mono ?_;rintro e w1 ⟨a,n,c,vs,rfl,hT,hf⟩;have F1:=hid (FA.out.trans hf);have X1:=hid (hf.heap id XA.out);have hn:n=1:=hT.len2.symm;subst hn;obtain ⟨v0,hv0⟩: ∃v,vs[0]?=some v:=⟨vs[0]'(by rw [hT.len];decide),by simp⟩;obtain ⟨b,off,rfl,_,_,hc⟩:=hT.at_.resolve_left (fun h=>by rw [h] at hv0;simp at hv0);have hp0:=hT.pt 0 v0 u hv0 rfl;obtain ⟨pa0,_,_,rfl,_⟩:=PT.form (HE.out.keep F1.out.sub) hp0
 have c0:=hc 0 _ hv0;have HP0:=hid hp0;have C0:=hid c0;rw [Nat.add_zero] at c0;have sz:=World.block_lt_of_cell? _ _ c0;dsimp only at sz;have sx:=zF X1.out;clear hT hc hf hp0 hv0;have qx:=zA X1.out 0;go_wp2_with fail
 refine (newSlice_any _ _ _).mono ?_;rintro e w2 ⟨rfl,hw2⟩;obtain ⟨hbl,hfl,hsl⟩:=Laid.facts hw2;have SZL:=hid (Nat.le_refl w1.heap.size);have P2:=hid (HP0.out.keep (hfl.sub));clear hw2 c0 qx sz sx;have FW:=hid ((F1.out).trans hfl);have BL:=hid hbl;clear hfl hbl hsl;go_wp2;go_ret;refine ⟨_,_,rfl,.slice f _ _ _ HK.out NM.out (fun ha=> ?_) BL.out P2.out,FW.out⟩;have h1:=HA.out _ ha;have h2:=F1.out.size
 have h3:=SZL.out;omega
theorem typ_three:
 (∀(x:TyV) (f:Lab) (xs:List TyV) (hs:Shape x f xs) (hk:f.kind=6) (ov:Value) (u:Tm) (hall: ∀w',Fr F0 w w'→Calls Tryz.prog 77 #[.pointer (some ⟨bb,0,none⟩),.slice x.a x.len x.cap,ov] w' (vB w' E [u])),
  Calls Tryz.prog 60 #[.pointer (some ⟨bb,0,none⟩),x.val,ov] w (xZ w E (.node f [u])))/\
 (∀(x:TyV) (f:Lab) (xs:List TyV) (hs:Shape x f xs) (hk:f.kind=7) (ov:Value) (u u2:Tm) (hall: ∀w',Fr F0 w w'→Calls Tryz.prog 77 #[.pointer (some ⟨bb,0,none⟩),.slice x.a x.len x.cap,ov] w' (vB w' E [u,u2])),
  Calls Tryz.prog 60 #[.pointer (some ⟨bb,0,none⟩),x.val,ov] w (xZ w E (.node f [u,u2])))/\
 (∀(x:TyV) (f:Lab) (xs:List TyV) (hs:Shape x f xs) (hk:f.kind=8) (ov:Value) (u:Tm) (hn3:f.n < 3) (hall: ∀w',Fr F0 w w'→Calls Tryz.prog 77 #[.pointer (some ⟨bb,0,none⟩),.slice x.a x.len x.cap,ov] w' (vB w' E [u])),
  Calls Tryz.prog 60 #[.pointer (some ⟨bb,0,none⟩),x.val,ov] w (xZ w E (.node f [u]))):=by
 refine ⟨@fun x f xs hs hk ov u hall=>have tg:Fin 1:=0;?_,@fun x f xs hs hk ov u u2 hall=>have tg:Fin 2:=0;?_,@fun x f xs hs hk ov u hn3 hall=>have tg:Fin 3:=0;?_⟩
 all_goals
  first
  |rename Fin 1=>tg
   have hxk:x.k=6:=by rw [hs.k,hk];rfl
   have HA:=hid hB.env.below;have NM:=hid (hs.normT (ts:= [u]) (by simp) (fun h=>by omega) (fun h=>by omega));have HK:=hid hk;have ALL:=hid hall
  |rename Fin 2=>tg
   have hxk:x.k=7:=by rw [hs.k,hk];rfl
   have HA:=hid hB.env.below;have NM:=hid (hs.normT (ts:= [u,u2]) (by simp) (fun h=>by omega) (fun h=>by omega));have HK:=hid hk;have ALL:=hid hall
  |have hxk:x.k=8:=by rw [hs.k,hk];rfl
   have HA:=hid hB.env.below;have NM:=hid (hs.normT (ts:= [u]) (by simp) (fun h=>by omega) (fun _=>hn3));have HK:=hid hk;have ALL:=hid hall
  have HE:=hid hB.env
  first
  |rename Fin 2=>tg
  |have hxn:x.n=f.n:=by have:=hs.n;rw [if_pos (by omega)] at this;exact this
  clear hB hs hk hall;obtain ⟨xk,xn,xc,xv,xa,xlen,xcap,xnm⟩:=x
  first
  |rename Fin 2=>tg
   dsimp only at hxk ALL ⊢;subst hxk
  |dsimp only at hxk ALL hxn ⊢
   subst hxk hxn
  unfold TyV.val;dsimp only
  first
  |rename Fin 1=>tg
   have FA:=hid ((Fr.refl F0 w).alloc (.cells #[.int .i64 6,.int .i64 f.n,.int .i64 xc,.bool xv,.slice xa xlen xcap,.string xnm] 26));have XA:=hid (heap_alloc_new w (.cells #[.int .i64 6,.int .i64 f.n,.int .i64 xc,.bool xv,.slice xa xlen xcap,.string xnm] 26))
  |rename Fin 2=>tg
   have FA:=hid ((Fr.refl F0 w).alloc (.cells #[.int .i64 7,.int .i64 xn,.int .i64 xc,.bool xv,.slice xa xlen xcap,.string xnm] 26));have XA:=hid (heap_alloc_new w (.cells #[.int .i64 7,.int .i64 xn,.int .i64 xc,.bool xv,.slice xa xlen xcap,.string xnm] 26))
  |have FA:=hid ((Fr.refl F0 w).alloc (.cells #[.int .i64 8,.int .i64 f.n,.int .i64 xc,.bool xv,.slice xa xlen xcap,.string xnm] 26))
   have XA:=hid (heap_alloc_new w (.cells #[.int .i64 8,.int .i64 f.n,.int .i64 xc,.bool xv,.slice xa xlen xcap,.string xnm] 26))
  go_enter Tryz.func60,Tryz.ntmps60;go_wp2_with fail
  refine (ALL.out _ FA.out).mono ?_;rintro e w1 ⟨a,n,c,vs,rfl,hT,hf⟩;have F1:=hid (FA.out.trans hf);have X1:=hid (hf.heap id XA.out)
  first
  |rename Fin 2=>tg
   have hn:n=2:=hT.len2.symm
  |have hn:n=1:=hT.len2.symm
  subst hn;obtain ⟨v0,hv0⟩: ∃v,vs[0]?=some v:=⟨vs[0]'(by rw [hT.len];decide),by simp⟩
  first
  |rename Fin 2=>tg
   obtain ⟨v1,hv1⟩: ∃v,vs[1]?=some v:=⟨vs[1]'(by rw [hT.len];decide),by simp⟩
  |skip
  obtain ⟨b,off,rfl,_,_,hc⟩:=hT.at_.resolve_left (fun h=>by rw [h] at hv0;simp at hv0);have hp0:=hT.pt 0 v0 u hv0 rfl;obtain ⟨pa0,_,_,rfl,_⟩:=PT.form (HE.out.keep F1.out.sub) hp0;have c0:=hc 0 _ hv0;have HP0:=hid hp0;have C0:=hid c0
  first
  |rename Fin 2=>tg
   have hp1:=hT.pt 1 v1 u2 hv1 rfl;obtain ⟨pa1,_,_,rfl,_⟩:=PT.form (HE.out.keep F1.out.sub) hp1;have c1:=hc 1 _ hv1;have HP1:=hid hp1;have C1:=hid c1
  |skip
  rw [Nat.add_zero] at c0;have sz:=World.block_lt_of_cell? _ _ c0;dsimp only at sz;have sx:=zF X1.out
  first
  |rename Fin 2=>tg
   clear hT hc hf hp0 hv0 hp1 hv1
  |clear hT hc hf hp0 hv0
  have qx:=zA X1.out;go_wp2_with fail
  first
  |rename Fin 1=>tg
   refine zG (Fr F0 w1) [(0,true),(1,true),(2,true),(3,true),(4,true),(5,false),(6,false),(7,false)] [7] yE (by kernel_rfl) (by kernel_rfl) (by kernel_rfl) (by decide) ?_;clear c0 qx sz sx
   iterate 5
    (refine zH _ rfl (Fr.refl _ _).drew (fun w' hS=>by
     have qx:=zA (hS.heap id X1.out);have c0':=hS.cell id C0.out;have sz':=World.block_lt_of_cell? _ _ c0';dsimp only at sz';rw [Nat.add_zero] at c0';have sx':=zF (hS.heap id X1.out);clear hS;go_simp;rfl) ?_)
  |rename Fin 2=>tg
   refine zG (Fr F0 w1) [(0,true),(1,true),(2,true),(3,true),(4,true),(5,true),(6,false),(7,false),(8,false)] [8] yE (by kernel_rfl) (by kernel_rfl) (by kernel_rfl) (by decide) ?_;clear c0 c1 qx sz sx
   iterate 6
    (refine zH _ rfl (Fr.refl _ _).drew (fun w' hS=>by
     have qx:=zA (hS.heap id X1.out);have c0':=hS.cell id C0.out;have sz':=World.block_lt_of_cell? _ _ c0';dsimp only at sz';rw [Nat.add_zero] at c0';have sx':=zF (hS.heap id X1.out);have c1':=hS.cell id C1.out;clear hS;go_simp;rfl) ?_)
  |refine zG (Fr F0 w1) [(0,true),(1,true),(3,true),(4,true),(5,true),(2,false),(6,false),(7,false),(8,false)] [8] yE (by kernel_rfl) (by kernel_rfl) (by kernel_rfl) (by decide) ?_
   clear c0 qx sz sx
   iterate 5
    (refine zH _ rfl (Fr.refl _ _).drew (fun w' hS=>by
     have qx:=zA (hS.heap id X1.out);have c0':=hS.cell id C0.out;have sz':=World.block_lt_of_cell? _ _ c0';dsimp only at sz';rw [Nat.add_zero] at c0';have sx':=zF (hS.heap id X1.out);clear hS;go_simp;rfl) ?_)
  go_simp;refine zB rfl ?_;go_wp2_with fail
  first
  |rename Fin 1=>tg
   refine (newArray_any _ _ _ _).mono ?_
  |rename Fin 2=>tg
   refine (newMap_any _ _ _ _ _).mono ?_
  |refine (direction_any _ _ hn3).mono ?_
   rintro e wd ⟨rfl,rfl⟩;go_wp2;refine And.intro (fun _=>(Fr.refl _ _).drew) ?_;refine zB rfl ?_;go_wp2_with fail
   refine (newChan_any _ _ _ _).mono ?_
  rintro e w2 ⟨rfl,hw2⟩;obtain ⟨hbl,hfl0,hsl⟩:=Laid.facts hw2;have hfl:=(Fr.refl F0 w1).drew.trans hfl0;have SZL:=hid (show w1.heap.size<=w1.drew.heap.size from Nat.le_refl w1.heap.size);have FL:=hid hfl;have P2:=hid (HP0.out.keep (hfl.sub))
  first
  |rename Fin 2=>tg
   have P3:=hid (HP1.out.keep (hfl.sub))
  |skip
  clear hw2 hfl0;have FW:=hid ((F1.out).trans hfl);have BL:=hid hbl;clear hfl hbl hsl;go_wp2;refine And.intro (fun _=>FL.out) ?_;refine zB rfl ?_;go_wp2;refine And.intro (fun _=>FL.out) ?_;refine zB rfl ?_;go_wp2;refine And.intro (fun h=>absurd h (by decide)) ?_;refine zO (NoPanic.normal ?_);go_wp2;go_ret
  first
  |rename Fin 1=>tg
   refine ⟨_,_,rfl,.array f _ _ _ HK.out NM.out (fun ha=> ?_) BL.out P2.out,FW.out⟩
  |rename Fin 2=>tg
   refine ⟨_,_,rfl,.map f _ _ _ _ _ HK.out NM.out (fun ha=> ?_) BL.out P2.out P3.out,FW.out⟩
  |refine ⟨_,_,rfl,.chan f _ _ _ HK.out NM.out (fun ha=> ?_) BL.out P2.out,FW.out⟩
  have h1:=HA.out _ ha;have h2:=F1.out.size;have h3:=SZL.out;omega
end
theorem letters: ∀(l:List (List UInt8)),(∀n∈l,∃c:UInt8,n= [c]/\65<=c/\c<=90)-> ∃cs:List UInt8,l=cs.map (fun c=> [c])/\ ∀c∈cs,65<=c.toNat/\c.toNat<=90:=by
 intro l
 induction l with
 |nil=>intro _;exact ⟨[],rfl,fun c h=>by cases h⟩
 |cons n l ih=>
  intro h;obtain ⟨c,rfl,h1,h2⟩:=h n (by simp);obtain ⟨cs,rfl,h3⟩:=ih fun m hm=>h m (by simp [hm])
  refine ⟨c::cs,rfl,fun d hd=> ?_⟩;rcases List.mem_cons.1 hd with rfl | hd
  ·exact ⟨UInt8.le_iff_toNat_le.1 h1,UInt8.le_iff_toNat_le.1 h2⟩
  ·exact h3 d hd
theorem VarRow.fields {w:World}{E:GEnv}{B:Nat}{nm:Nat->ByteArray}{vs:List Value}{o:Value}{ps:List Nat}{a:Option Addr}{c:Nat}{cs:List UInt8}(h:VarRow w E.pk B nm vs o vs.length ps)(ho:o= .slice a vs.length c)(hl:vs.length=cs.length)(hnm: ∀(k:Nat)(d:UInt8),cs[k]?=some d->nm k=⟨#[d]⟩/\65<=d.toNat/\d.toNat<=90):FieldsAt w E a cs vs:=by
 refine ⟨hl,?_⟩;rcases (wB h.own).2 with ⟨hps,rfl⟩ | ⟨g,cap,rfl,hg0,hc1,hc2,hcs,hce⟩
 ·refine .inl ?_
  have:=h.len;rw [List.map_eq_nil_iff] at hps;rw [hps] at this;exact List.eq_nil_of_length_eq_zero this.symm
 ·injection ho with ho1 ho2 ho3
  refine .inr ⟨g,0,ho1.symm,fun i v d hv hd=> ?_⟩;have hi:=(List.getElem?_eq_some_iff.1 hv).1;obtain ⟨vb,hvb⟩: ∃vb,ps[i]?=some vb:=⟨ps[i]'(by rw [h.len];exact hi),by simp⟩;obtain ⟨h1,p0,kk,h2⟩:=h.at_ i vb v hvb hv;obtain ⟨h3,h4⟩:=hnm i d hd;rw [h3] at h2;exact ⟨vb,p0,kk,hce i _ (by rw [List.getElem?_map,hvb];rfl),h2,h4⟩
theorem typ_struct {E:GEnv}{bb:Nat}{da:Option Addr}{dl dc:Nat}{ar:Nat->Nat}(w:World)(hB:BEnv w E bb da dl dc ar)(x:TyV)(f:Lab)(xs:List TyV)(hs:Shape x f xs)(hk:f.kind=9)(hx:xB w F0 x.a xs)(ov:Value)(us:List Tm)(hl:us.length=x.len)
 (hnd:f.names.Nodup) (hlt: ∀n∈f.names,∃c:UInt8,n= [c]/\65<=c/\c<=90) (hall: ∀w',Fr F0 w w'->Calls Tryz.prog 77 #[.pointer (some ⟨bb,0,none⟩),.slice x.a x.len x.cap,ov] w' (vB w' E us)):
 Calls Tryz.prog 60 #[.pointer (some ⟨bb,0,none⟩),x.val,ov] w (xZ w E (.node f us)):=by
 have hxk:x.k=9:=by rw [hs.k,hk];rfl
 have hnames:f.names=xs.map (fun y=>y.nm.toList):=by have:=hs.names;rw [if_pos hk] at this;exact this
 obtain ⟨cs,hcs,hcl⟩:=letters f.names hlt
 have hcn:cs.Nodup:=by
  rw [hcs] at hnd;exact List.Pairwise.imp (fun h e=>h (by rw [e])) (List.pairwise_map.1 hnd)
 have hxl:=hs.len;have hxb:=hs.bound.2.1;have hcc:cs.length=x.len:=by rw [<-hxl,<-List.length_map (fun c:UInt8=> [c]),<-hcs,hnames,List.length_map]
 have hxn: ∀(k:Nat) (y:TyV) (d:UInt8),xs[k]?=some y→cs[k]?=some d→y.nm=⟨#[d]⟩∧65≤d.toNat∧d.toNat≤90:=by
  intro k y d hy hd;refine ⟨str_one (c:=d) ?_,hcl d (List.mem_of_getElem? hd)⟩;have h1:(f.names)[k]?=some y.nm.toList:=by rw [hnames,List.getElem?_map,hy];rfl
  have h2:(f.names)[k]?=some [d]:=by rw [hcs,List.getElem?_map,hd];rfl
  rw [h1] at h2;exact Option.some.inj h2
 have HA:=hid hB.env.below;have NM:=hid (hs.normT (ts:=us) (by rw [hl];exact hs.bound.2.1) (fun h=>by omega) (fun h=>by omega));have HK:=hid hk;have ALL:=hid hall;have HB:=hid hB;have HL:=hid hl;have HXL:=hid hxl;have HX:=hid hx;have CS:=hid hcs;have CN:=hid hcn;have CC:=hid hcc;have XN:=hid hxn;obtain ⟨i0,hi0,hz0,hz1,hz2⟩:=info_parts info133b;obtain ⟨na,nc,ta,tc,hbb,_⟩:=hB.b;obtain ⟨pb,_,_,_,hpe,_⟩:=hB.pk
 have BB:=hid hbb;have PE:=hid hpe;clear hB hs hk hall hl hxl hx hcs hcn hcc hxn hnames hcl hnd hlt hbb hpe;obtain ⟨xk,xn,xc,xv,xa,xlen,xcap,xnm⟩:=x;dsimp only at hxk ALL HL HXL HX CC hxb ⊢;subst hxk;unfold TyV.val;dsimp only;have FA:=hid ((Fr.refl F0 w).alloc (.cells #[.int .i64 9,.int .i64 xn,.int .i64 xc,.bool xv,.slice xa xlen xcap,.string xnm] 26));have XA:=hid (heap_alloc_new w (.cells #[.int .i64 9,.int .i64 xn,.int .i64 xc,.bool xv,.slice xa xlen xcap,.string xnm] 26))
 go_enter Tryz.func60,Tryz.ntmps60;go_wp2_with fail
 refine (ALL.out _ FA.out).mono ?_;rintro e w1 ⟨a,n,c,vs,rfl,hT,hf⟩;have F1:=hid (FA.out.trans hf);have X1:=hid (hf.heap id XA.out);have hn:n=xlen:=by rw [<-hT.len2];exact HL.out
 subst hn;have TT:=hid hT;have B1:=hid (F1.out.heap id BB.out);have XS1:=hid (HX.out.keep F1.out);have sx:=zF X1.out;have qx:=zA X1.out;clear hT hf;go_wp2_with fail
 clear qx;go_loopw [8,9,10,90] (fun o _ _ i wr=> ∃(j:Nat) (ps:List Nat),j<=n/\i= .int .i64 j/\Fr F0 w1 wr/\VarRow wr E.pk w1.heap.size (fun k=>((xs[k]?).map (·.nm)).getD ⟨#[]⟩) vs o j ps) (fun _ _ _ i _=>n - (intOf i).toNat)
 case atStart=>exact ⟨0,[],Nat.zero_le _,rfl,Fr.refl _ _,VarRow.start _ _ _ _ _⟩
 case round=>
  obtain ⟨WX,rfl⟩: ∃WX:World,WX=wr:=⟨wr,rfl⟩;obtain ⟨ow,rfl⟩: ∃ow:Value,ow=u8:=⟨_,rfl⟩;obtain ⟨j,ps,hj,rfl,hfr,hrow⟩:=hrel;have FX:=hid hfr;have RX:=hid hrow;clear hfr hrow;by_cases hlt:j < n
  ·have hle:(j:Int) < n:=by omega
   obtain ⟨v,hv⟩: ∃v,vs[j]?=some v:=⟨vs[j]'(by rw [TT.out.len];exact hlt),by simp⟩;obtain ⟨b,off,rfl,_,_,hcc⟩:=TT.out.at_.resolve_left (fun h=>by have:=TT.out.len;rw [h] at this;simp at this;omega)
   obtain ⟨ty,pv,rfl⟩: ∃ty pv,v= .iface ty pv:=by
    obtain ⟨u,hu⟩: ∃u,us[j]?=some u:=⟨us[j]'(by rw [TT.out.len2];exact hlt),by simp⟩;have:=TT.out.pt j v u hv hu
    cases this <;>exact ⟨_,_,rfl⟩
   obtain ⟨Y,yb,yo,gY,rfl,e1⟩:=XS1.out.elem (show j < xs.length by rw [HXL.out];exact hlt);have c1:=FX.out.cell id (hcc j _ hv);have szb:=World.block_lt_of_cell? _ _ c1;dsimp only at szb;have hb1:=FX.out.heap id B1.out;rw [PE.out] at hb1;have hx1:=FX.out.heap id X1.out;have hy5:=FX.out.cell id e1.c5;have HV:=hid hv;have HB1:=hid hb1;have HX1:=hid hx1;have HY5:=hid hy5;have GY:=hid gY;have nB: ¬ow.ownBlock=some bb:=fun h=>by have h1:=(World.ownsRow.lt RX.out.own _ h).1;have h2:=zF B1.out;omega
   have nX: ¬ow.ownBlock=some w.heap.size:=fun h=>by have h1:=(World.ownsRow.lt RX.out.own _ h).1;omega
   have nY: ¬ow.ownBlock=some yb:=fun h=>by have h1:=(World.ownsRow.lt RX.out.own _ h).1;have h2:=World.block_lt_of_cell? _ _ e1.c5;dsimp only at h2;omega
   have NB:=hid nB;have NX:=hid nX;have NY:=hid nY;clear hv hcc hb1 hx1 hy5 gY e1 nB nX nY;go_wp2_with fail
   refine zG (Fr (fun b=>ow.ownBlock=some b) WX) [(0,true),(1,true),(2,true),(3,true),(4,true),(5,true),(6,true),(7,true),(8,true),(9,true),(10,true),(11,true),(12,false),(13,false),(14,false),(15,false)] [15] yE (by kernel_rfl) (by kernel_rfl) (by kernel_rfl) (by decide) ?_;clear c1 szb
   iterate 12
    (refine zH _ rfl (Fr.refl _ _).drew (fun w' hS=>by
     have q0:=zA (hS.heap NB.out HB1.out);have s0:=zF (hS.heap NB.out HB1.out);have q1:=zA (hS.heap NX.out HX1.out);have s1:=zF (hS.heap NX.out HX1.out);have q2:=hS.cell NY.out HY5.out;have s2:=World.block_lt_of_cell? _ _ q2;dsimp only at s2;clear hS;go_simp;rfl) ?_)
   go_simp;refine zB rfl ?_;go_wp2_with fail
   refine (newField_any _ _ _ _ _ _ ⟨_,rfl⟩).mono ?_;rintro e w2 ⟨rfl,hw2⟩;obtain ⟨b2,f2,s2⟩:=Laid.facts hw2;have B2:=hid b2;have F2:=hid ((Fr.refl F0 WX).drew.trans f2);have SZ:=hid (show w1.heap.size<=WX.heap.size from FX.out.size);have SZW:=hid (show WX.drew.heap.size=WX.heap.size from rfl);clear b2 f2 s2 hw2;go_wp2;refine And.intro (fun _=>F2.out.sub) ?_;refine zB rfl ?_;go_wp2;refine And.intro (fun _=>F2.out.sub.alloc _) ?_
   refine zB rfl ?_;have OA:=hid ((RX.out.keep F2.out).own.alloc (.cells #[.pointer (some ⟨WX.heap.size,0,none⟩)] 133));have N63:=hid (show j + 1<=maxLen by unfold maxLen;omega);have N72:=hid (show (j + 1) * 8<=140737488355328 by omega);have SZ2:=hid (show w1.heap.size<=(w2.alloc (.cells #[.pointer (some ⟨WX.heap.size,0,none⟩)] 133)).heap.size by have h1:=SZ.out;have h2:=F2.out.size;simp;omega);refine wpList_append_lies _ rfl _ _ 154 rfl w1.heap.size 133 i0 _ 1 8 under154b hi0 hz0 hz1 hz2 rfl (by omega) ow j _ (by rfl) OA.out ⟨w2.heap.size,0,none⟩ 1 1 [.pointer (some ⟨WX.heap.size,0,none⟩)] (by rfl) (by rfl) (World.news_of_block (cs:= #[.pointer (some ⟨WX.heap.size,0,none⟩)]) (t:=133) (fr:=(0,0)) (heap_alloc_new w2 _)) (by simp [Value.oneCell']) (by omega) N63.out N72.out SZ2.out (w2.heap.size + 1) (by simp) ?_
   intro g cap w3 hown3 hgrow hg1 hg2;have F23:Fr (fun b=>ow.ownBlock=some b) w2 w3:=(Fr.alloc (Fr.refl _ w2) _).trans (Fr.of_grown hgrow);have HF3:=hid ((FX.out.trans F2.out).transNew F23 (fun b hb=> .inr (World.ownsRow.lt RX.out.own b hb).1));have FS3:=hid (F2.out.sub.trans F23);have hcd: ∃d,cs[j]?=some d:=⟨cs[j]'(by rw [CC.out];exact hlt),by simp⟩;have NXT:=hid (RX.out.next F2.out HV.out SZ.out (by rw [PE.out];have h:=B2.out;rw [SZW.out] at h;simp only [GY.out,Option.map_some,Option.getD_some];exact h) F23 hown3)
   clear hown3 F23 hgrow hg1 hg2 hcd;go_wp2;refine And.intro (fun _=>FS3.out) ?_;refine zB rfl ?_;go_wp2;refine And.intro (fun h=>absurd h (by decide)) ?_;refine zO (NoPanic.normal ?_);go_wp2;go_roundw
   case rel=>exact ⟨j + 1,_,by omega,by go_num,HF3.out,NXT.out⟩
   case measure=>simp [intOf];omega
  ·have hjn:j=n:=by omega
   subst hjn;have hle: ¬(j:Int) < j:=by omega
   have hl:=TT.out.len;subst hl;have hA1: ∀b,E.A b->b < w1.heap.size:=fun b hb=>Nat.lt_of_lt_of_le (HA.out b hb) F1.out.size
   have hvn: ∀(k:Nat) (d:UInt8),cs[k]?=some d→(fun k=>((xs[k]?).map (·.nm)).getD ⟨#[]⟩) k=⟨#[d]⟩∧65≤d.toNat∧d.toNat≤90:=by
    intro k d hd;have hk:k < xs.length:=by rw [HXL.out,<-CC.out];exact (List.getElem?_eq_some_iff.1 hd).1
    have hy:xs[k]?=some xs[k]:=by simp [hk]
    obtain ⟨h1,h2⟩:=XN.out k _ d hy hd;refine ⟨?_,h2⟩;simp only [hy,Option.map_some,Option.getD_some];exact h1
   obtain ⟨a',c',ho,hva,hc1,hc2,hz⟩:=RX.out.fin hA1 f.names (fun k n' h=>by
    rw [CS.out,List.getElem?_map] at h;obtain ⟨d,hd,rfl⟩:=Option.map_eq_some_iff.1 h;obtain ⟨h1,h2,h3⟩:=hvn k d hd;have h1':((xs[k]?).map (·.nm)).getD ⟨#[]⟩=⟨#[d]⟩:=h1;rw [h1'];exact ⟨by rw [ByteArray.toList_eq],d,rfl,UInt8.le_iff_toNat_le.2 h2,UInt8.le_iff_toNat_le.2 h3⟩)
   have FLD:=hid (RX.out.fields (E:=E) ho CC.out.symm hvn);subst ho;have VA:=hid hva;have HZ:=hid hz;have FWX:=hid (F1.out.trans FX.out);clear hva hz hvn hA1;go_wp2_with fail
   refine (newStruct_any (E:=E) WX a' vs.length c' cs vs (HB.out.keep FWX.out).env (HB.out.keep FWX.out).pk FLD.out rfl CN.out hxb (fun h=>HZ.out h) ⟨hc1,hc2⟩).mono ?_;rintro e w3 ⟨b,fa',fc',rfl,hb3,heq,hc3,hc4,hf3,hs3⟩;have B3:=hid hb3;have EQ:=hid heq;have F3:=hid hf3;have S3:=hid hs3;clear hb3 heq hf3 hs3;go_wp2;go_ret;refine ⟨_,_,rfl,.struct f b fa' fc' vs us HK.out NM.out ?_ (fun ha=> ?_) B3.out TT.out.len2.symm hc3 hc4 ?_ (fun i v t hv ht=>((TT.out.pt i v t hv ht).keep (FX.out.trans F3.out).sub)),FWX.out.trans F3.out⟩
   ·rw [CS.out,List.length_map,CC.out,HL.out]
   ·have h1:=HA.out _ ha
    have h2:=F1.out.size;have h3:=FX.out.size;have h4:=S3.out;omega
   ·by_cases h0:0 < vs.length
    ·obtain ⟨rfl,rfl⟩:=EQ.out h0
     exact VA.out.keep F3.out.sub
    ·exact .inl (List.eq_nil_of_length_eq_zero (by omega))
end Go.Proofs.YtpekidjfbinekaaGreatDoor
