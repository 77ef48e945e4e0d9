/-   The law FnDefined. -/
import Derived.Test.YtpekidjfbinekaaGreatDoorL6
set_option maxRecDepth 100000
set_option maxHeartbeats 60000000
set_option linter.all false
namespace Go.Proofs.YtpekidjfbinekaaGreatDoor
open Go.RowKit Uni
theorem holes3_own {k:Nat}{l:List Tm}(hl:l.length=k)(hh: ∀t∈l,Holes 3 0 t){t:Tm}:Holes 3 k t->Holes 3 0 (t.own l):=by
 intro h
 induction h with
 |var p _=>rw [Tm.own_var];exact .var p (fun h=>absurd h (by decide))
 |node f ts h1 h2 ih=>
  rw [Tm.own_node]
  split
  ·rename_i hk
   have:=h1 hk.symm;rw [List.getD_eq_getElem?_getD,List.getElem?_eq_getElem (by omega)];exact hh _ (List.getElem_mem _)
  ·rename_i hk
   refine .node f _ (fun h=>absurd h.symm hk) fun t ht=> ?_
   obtain ⟨u,hu,rfl⟩:=List.mem_map.1 ht;exact ih u hu
theorem TIn.und {w w':World}{da:Option Addr}{dl n:Nat}{ar:Nat->Nat}{D:zE}{x r:TyV}{f:Lab}{ts:List Tm}(h:LIn w da dl ar D n)(hx:TIn w dl ar n x (.node f ts))(hf:f.kind=1)(hr:RT w' F0 r (Uni.und D (.node f ts))):TIn w' dl ar n r (Uni.und D (.node f ts)):=by
 obtain ⟨hn,hl⟩:=hx.g.lab.k1 hf;have e:Uni.und D (.node f ts)=(D f.n).own ts:=by simp [Uni.und,hf]
 refine ⟨hr,hx.g.und h.d.goodD,?_,?_⟩
 ·rw [e];exact holes_own hl (fun t ht=>hx.h2.kid ht) (h.d.d.noVar f.n hn) (h.d.d.own f.n hn)
 ·rw [e];exact holes3_own hl (fun t ht=>hx.h3.kid ht) (h.d.d.own f.n hn)
theorem defined_fact {w:World}{da:Option Addr}{dl n:Nat}{ar:Nat->Nat}{D:zE}{y r:TyV}{f g:Lab}{ts us:List Tm}(h:LIn w da dl ar D n)(hy:TIn w dl ar n y (.node g us))(hr:TIn w dl ar n r (Uni.und D (.node f ts)))(hf:f.kind=1)(hg:4<=g.kind){o1 o2:Option St}
 (h1:RefFact D (Uni.und D (.node f ts)) (.node g us) .exact o1) (h2:RefFact D (.node f ts) (.node g us) .assign o2):o2.isSome=o1.isSome:=by
 obtain ⟨⟨M,hM,hq⟩,hr1⟩:=h1;obtain ⟨okk,a,b,ha,hb,hab⟩:=hq (Uni.und D (.node f ts),.node g us) (by simp);have fine: ∀N,49<=N->Fine D M dl ar N St.init (Uni.und D (.node f ts)) (.node g us):=fun N hN=>⟨⟨a,b,by omega,ha,hb⟩,okk,Inv.init M,hr.fit,hy.fit,fun P t h=>by simp [St.init] at h⟩
 obtain ⟨q,hn,_⟩:=nifyT_ends h.d.ok hM 50 a b St.init _ _ .exact (by omega) okk ha hb (Inv.init M)
 have e2:zI D 49 St.init (Uni.und D (.node f ts)) (.node g us) .exact=some (okO o2):=by
  have:=h2.2;rw [zI,yF] at this;by_cases hd:zT D (.node f ts) (.node g us)=true
  ·rw [if_pos ⟨by simp,hd⟩] at this
   cases o2 <;>simp [okO] at this
  ·rw [if_neg (fun h=>hd h.2),if_pos ⟨by simp,hf,hg⟩] at this
   exact this
 have a1:=(sim h.d.ok hM h.d.body 50 50 St.init _ _ .exact (by simp) (fine 50 (by omega)) _ hr1).1 q hn;have a2:=(sim h.d.ok hM h.d.body 49 50 St.init _ _ .exact (by simp) (fine 49 (by omega)) _ e2).1 q hn;rw [agree_some (yM.near (D:=D) (M:=M) (nd:=dl) (ar:=ar) a1),agree_some (yM.near (D:=D) (M:=M) (nd:=dl) (ar:=ar) a2)]
theorem fnDefined {da:Option Addr}{dl dc:Nat}(n:Int)(w:World)(h:ArgIn w da dl dc)(x y:TyV)(hx:Raw w x)(hy:Raw w y):
 Calls Tryz.prog 3 #[.slice da dl dc,.int .i64 n,x.val,y.val] w (YesB w):=by
 have HH:=hid h;have HX:=hid hx;have HY:=hid hy;clear h hx hy;unfold TyV.val;have FW:=hid (((Fr.refl F0 w).alloc (.cells #[.int .i64 x.k,.int .i64 x.n,.int .i64 x.c,.bool x.v,.slice x.a x.len x.cap,.string x.nm] 26)).alloc (.cells #[.int .i64 y.k,.int .i64 y.n,.int .i64 y.c,.bool y.v,.slice y.a y.len y.cap,.string y.nm] 26));by_cases hbig:(2147483647:Int) < dl
 ·go_enter Tryz.func3,Tryz.ntmps3
  go_wp2;go_ret;exact ⟨rfl,FW.out⟩
 have BIG:decide ((2147483647:Int) < dl)=false:=by simpa using hbig
 clear hbig;go_enter Tryz.func3,Tryz.ntmps3;go_wp2_with fail
 refine (fits_any x _ HX.out.small).mono ?_;rintro e w1 ⟨b1,rfl,hf1⟩;have F1:=hid (FW.out.trans hf1);have BX1:=hid (hf1.heap id (show ((w.alloc (.cells #[.int .i64 x.k,.int .i64 x.n,.int .i64 x.c,.bool x.v,.slice x.a x.len x.cap,.string x.nm] 26)).alloc (.cells #[.int .i64 y.k,.int .i64 y.n,.int .i64 y.c,.bool y.v,.slice y.a y.len y.cap,.string y.nm] 26)).heap[w.heap.size]?=_ from ((Fr.refl F0 _).alloc _).heap id (heap_alloc_new w _)))
 have BY1:=hid (hf1.heap id (zS w (.cells #[.int .i64 x.k,.int .i64 x.n,.int .i64 x.c,.bool x.v,.slice x.a x.len x.cap,.string x.nm] 26) (.cells #[.int .i64 y.k,.int .i64 y.n,.int .i64 y.c,.bool y.v,.slice y.a y.len y.cap,.string y.nm] 26)));clear hf1;cases b1
 ·go_wp2
  go_ret;exact ⟨rfl,F1.out⟩
 have y1:=zA BY1.out;have s1:=bl (y1 0);go_wp2_with fail
 refine (fits_any y _ HY.out.small).mono ?_;rintro e w2 ⟨b2,rfl,hf2⟩;have F2:=hid (F1.out.trans hf2);have BX2:=hid (hf2.heap id BX1.out);have BY2:=hid (hf2.heap id BY1.out);clear hf2 y1 s1;cases b2
 ·go_wp2
  go_ret;exact ⟨rfl,F2.out⟩
 have x2:=zA BX2.out;have y2:=zA BY2.out;have s2:=bl (x2 0);have t2:=bl (y2 0);obtain ⟨ps,hps⟩:=HH.out.d;have PS:=hid hps;clear hps;go_wp2_with fail
 have FA:=hid (F2.out.alloc (.cells (arr12 x y) 26));refine (valid_any da dl dc n (some ⟨w2.heap.size,0,none⟩) 2 2 ps [x,y] (w2.alloc (.cells (arr12 x y) 26)) (PS.out.keep FA.out) (rawL_two (heap_alloc_new w2 _) (HX.out.keep FA.out) (HY.out.keep FA.out))).mono ?_;rintro e w3 ⟨b3,rfl,hf3,hv⟩;have F3:=hid (FA.out.trans hf3);have BX3:=hid (hf3.heap id (((Fr.refl F0 w2).alloc _).heap id BX2.out));have BY3:=hid (hf3.heap id (((Fr.refl F0 w2).alloc _).heap id BY2.out))
 cases b3
 ·clear hf3 hv x2 y2 s2 t2
  go_wp2;go_ret;exact ⟨rfl,F3.out⟩
 obtain ⟨N,ar,D,s,t,rfl,hL,hS,hT⟩:=valid_two (hv rfl) (HH.out.tab.keep FA.out) hf3;have LI:=hid hL;have HS:=hid hS;have HT:=hid hT;clear hf3 hv x2 y2 s2 t2 hL hS hT;have x3:=zA BX3.out;have y3:=zA BY3.out;have s3:=bl (x3 0);have t3:=bl (y3 0);by_cases hk:x.k=1
 case neg=>
  have K1:(x.k==1)=false:=by simpa using hk
  have K2:(x.k !=1)=true:=by simpa using hk
  clear hk;go_wp2;go_ret;exact ⟨rfl,F3.out⟩
 by_cases hy4:y.k < 4
 ·have K1:(x.k==1)=true:=by simpa using hk
  have K2:(x.k !=1)=false:=by simpa using hk
  have K3:decide (y.k < 4)=true:=by simpa using hy4
  have KX:=hid hk;clear hk;go_wp2;go_ret;exact ⟨rfl,F3.out⟩
 obtain ⟨f,ts,rfl⟩: ∃f ts,s= .node f ts:=by
  cases s with
  |var p=>have:=HS.out.r;cases this;omega
  |node f ts=>exact ⟨f,ts,rfl⟩
 obtain ⟨g,us,rfl⟩: ∃g us,t= .node g us:=by
  cases t with
  |var p=>have:=HT.out.r;cases this;omega
  |node g us=>exact ⟨g,us,rfl⟩
 obtain ⟨xs,_,_,_,sx⟩:=HS.out.r.flat;obtain ⟨ys,_,_,_,sy⟩:=HT.out.r.flat;have sx:Shape x f xs:=sx;have sy:Shape y g ys:=sy;have hf1:f.kind=1:=by have:=sx.k;omega
 have hg4:4<=g.kind:=by have:=sy.k;omega
 clear sx sy;have K1:(x.k==1)=true:=by simpa using hk
 have K2:(x.k !=1)=false:=by simpa using hk
 have K3:decide (y.k < 4)=false:=by simpa using hy4
 have HF1:=hid hf1;have HG4:=hid hg4;obtain ⟨hn1,hl1⟩:=HS.out.g.lab.k1 hf1;have UN:=hid (fun (w':World) (f':Fr F0 w3 w')=>xG da dl dc D ar x f ts w' F0 (LI.out.d.d.keep f') (HS.out.r.keep f') hf1 hn1 hl1 (fun _ hb=>hb.elim));clear hk hy4 hf1 hg4 hn1 hl1;unfold TyV.val at UN;go_wp2_with fail
 refine (UN.out _ (Fr.refl _ _)).mono ?_;rintro e w4 ⟨r,rfl,hr,hf4⟩;have F4:=hid hf4;have HR4:=hid hr;clear hf4 hr x3 y3 s3 t3 K1 K2 K3;go_wp2_with (refine zR rfl _ _ rfl rfl w4.heap.size r rfl rfl (heap_alloc_new w4 _) ?_)
 intro W5 hR5 hf5;have BR5:=hid hR5;have F5:=hid ((F4.out.alloc _).transNew hf5 fun b hb=> .inr (by subst hb;exact F4.out.size));have R5:=hid (show TIn W5 dl ar N r _ from (TIn.und LI.out HS.out HF1.out HR4.out).keep (((Fr.refl F0 w4).alloc _).transNew hf5 fun b hb=> .inr (by subst hb;exact Nat.le_refl _)));have LI5:=hid (LI.out.keep F5.out);have HS5:=hid (HS.out.keep F5.out);have HT5:=hid (HT.out.keep F5.out)
 have BX5:=hid (F5.out.heap id BX3.out);have BY5:=hid (F5.out.heap id BY3.out);clear hR5 hf5;go_wp2_with fail
 refine (new_any N da dl dc W5 LI.out.n8).mono ?_;rintro e w6 ⟨B,rfl,hU6,hf6,hM6,hp6⟩;have F6:=hid hf6;have HB:=hid hM6;have BU:=hid hU6;clear hU6 hf6 hM6 hp6;go_wp2_with fail
 refine (new_any N da dl dc w6 LI.out.n8).mono ?_;rintro e w7 ⟨C,rfl,hU7,hf7,hM7,hp7⟩;have F7:=hid (F6.out.trans hf7);have HC:=hid hM7;have CU:=hid hU7;have BU7:=hid (BU.out.keep hf7);have PC:=hid hp7;have HB5:=hid (show ∀b,B.M b->W5.heap.size<=b/\b < w7.heap.size from fun b hb=>⟨(HB.out b hb).1,Nat.lt_of_lt_of_le (HB.out b hb).2 hf7.size⟩);have HC5:=hid (show ∀b,C.M b->W5.heap.size<=b/\b < w7.heap.size from fun b hb=>⟨Nat.le_trans F6.out.size (HC.out b hb).1,(HC.out b hb).2⟩)
 clear hU7 hf7 hM7 hp7;have c7_0:=zA (F7.out.heap id BX5.out);have z7_0:=bl (c7_0 0);have c7_1:=zA (F7.out.heap id BY5.out);have z7_1:=bl (c7_1 0);have c7_2:=zA (F7.out.heap id BR5.out);have z7_2:=bl (c7_2 0);go_wp2_with fail
 refine (ref_unify (x:=r) (y:=y) LI5.out.d.goodD LI5.out.d.ok .exact ⟨uenv_new LI5.out F7.out BU7.out HB5.out,xin_new R5.out F7.out HB5.out,xin_new HT5.out F7.out HB5.out⟩).mono ?_;rintro e w8 ⟨b1,sl1,rfl,hf8,hc1,ho1⟩;have F8:=hid (F7.out.transNew hf8 fun b hb=> .inr (HB5.out b hb).1);have CU8:=hid (CU.out.keepInit hf8 (fun b hb hb'=>by have:=(HC.out b hb).1;have:=(HB.out b hb').2;omega) PC.out);have HC8:=hid (show ∀b,C.M b->W5.heap.size<=b/\b < w8.heap.size from fun b hb=>⟨(HC5.out b hb).1,Nat.lt_of_lt_of_le (HC5.out b hb).2 hf8.size⟩)
 have C1:=hid hc1;have O1:=hid ho1;clear hf8 hc1 ho1;clear c7_0 z7_0 c7_1 z7_1 c7_2 z7_2;have c8_0:=zA (F8.out.heap id BX5.out);have z8_0:=bl (c8_0 0);have c8_1:=zA (F8.out.heap id BY5.out);have z8_1:=bl (c8_1 0);have c8_2:=zA (F8.out.heap id BR5.out);have z8_2:=bl (c8_2 0);go_wp2_with fail
 refine (ref_unify (x:=x) (y:=y) LI5.out.d.goodD LI5.out.d.ok .assign ⟨uenv_new LI5.out F8.out CU8.out HC8.out,xin_new HS5.out F8.out HC8.out,xin_new HT5.out F8.out HC8.out⟩).mono ?_;rintro e w9 ⟨b2,sl2,rfl,hf9,hc2,ho2⟩;have F9:=hid (F8.out.transNew hf9 fun b hb=> .inr (HC8.out b hb).1);have c1:=hf9.cell (p:=⟨B.u,4,none⟩) (show ¬C.M B.u from fun hb=>by have:=(HC.out _ hb).1;have:=(HB.out B.u (.inl rfl)).2;omega) C1.out
 have c2:=hc2;have sb:=World.block_lt_of_cell? _ _ c1;have sc:=World.block_lt_of_cell? _ _ c2;dsimp only at sb sc;have O2:=hid ho2;clear hf9 hc2 ho2;clear c8_0 z8_0 c8_1 z8_1 c8_2 z8_2;cases sl1
 ·cases sl2
  ·obtain ⟨o1,h1,_⟩:=O1.out rfl
   obtain ⟨o2,h2,_⟩:=O2.out rfl;have DEF:=hid (defined_fact LI5.out HT5.out R5.out HF1.out HG4.out h1 h2);have E1:=hid h1;have E2:=hid h2;clear h1 h2;have c9_0:=zA (F9.out.heap id BX5.out);have z9_0:=bl (c9_0 0);have c9_1:=zA (F9.out.heap id BY5.out);have z9_1:=bl (c9_1 0);have c9_2:=zA (F9.out.heap id BR5.out);have z9_2:=bl (c9_2 0);go_wp2_with fail
   refine (impl_unify dc (LI5.out.keep F9.out) .assign (HS5.out.keep F9.out) (HT5.out.keep F9.out) E2.out).mono ?_;rintro e w10 ⟨a10,c10,ls10,z10,rfl,hf10,_,_,_,_⟩;have F10:=hid (F9.out.trans hf10);clear hf10;clear c9_0 z9_0 c9_1 z9_1 c9_2 z9_2;have c10_0:=zA (F10.out.heap id BX5.out);have z10_0:=bl (c10_0 0);have c10_1:=zA (F10.out.heap id BY5.out);have z10_1:=bl (c10_1 0);have c10_2:=zA (F10.out.heap id BR5.out)
   have z10_2:=bl (c10_2 0);go_wp2_with fail
   refine (impl_unify dc (LI5.out.keep F10.out) .exact (R5.out.keep F10.out) (HT5.out.keep F10.out) E1.out).mono ?_;rintro e w11 ⟨a11,c11,ls11,z11,rfl,hf11,_,_,_,_⟩;have F11:=hid (F10.out.trans hf11);clear hf11;clear c10_0 z10_0 c10_1 z10_1 c10_2 z10_2;rw [DEF.out];go_wp2_with fail
   refine (works_any w11 (LI5.out.tab.keep F11.out)).mono ?_;rintro e w12 ⟨rfl,hf12⟩;have FZ:=hid (F3.out.trans (F5.out.trans (F11.out.trans hf12)));clear hf12;go_wp2;go_ret;exact ⟨rfl,FZ.out⟩
  ·go_wp2_with fail
   refine (works_any w9 (LI5.out.tab.keep F9.out)).mono ?_;rintro e w10 ⟨rfl,hf10⟩;have FZ:=hid (F3.out.trans (F5.out.trans (F9.out.trans hf10)));clear hf10;go_wp2;go_ret;exact ⟨rfl,FZ.out⟩
 ·go_wp2_with fail
  refine (works_any w9 (LI5.out.tab.keep F9.out)).mono ?_;rintro e w10 ⟨rfl,hf10⟩;have FZ:=hid (F3.out.trans (F5.out.trans (F9.out.trans hf10)));clear hf10;go_wp2;go_ret;exact ⟨rfl,FZ.out⟩
end Go.Proofs.YtpekidjfbinekaaGreatDoor
