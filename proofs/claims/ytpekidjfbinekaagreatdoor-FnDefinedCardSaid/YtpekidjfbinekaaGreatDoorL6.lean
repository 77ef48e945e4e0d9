/-   place, and the law FnSymmetric. -/
import Derived.Test.YtpekidjfbinekaaGreatDoorL4
set_option maxRecDepth 100000
set_option maxHeartbeats 60000000
set_option linter.all false
namespace Go.Proofs.YtpekidjfbinekaaGreatDoor
open Go.RowKit Uni
theorem place_any (n:Int)(k:Nat)(w:World)(h1:1<=k)(h8:k<=8):Calls Tryz.prog 21 #[.int .i64 n,.int .i64 k] w fun e w'=> ∃r:Nat,r < k/\e= .returned (.int .i64 r)/\Fr F0 w w':=by
 have hk0:(k:Int)≠0:=by omega
 have a1:Int.tmod n k < k:=Int.tmod_lt_of_pos _ (by omega);have a2: -(k:Int) < Int.tmod n k:=by have:=Int.lt_tmod_of_pos n (show (0:Int) < k by omega);omega
 have b0:0<=Int.tmod (Int.tmod n k + k) k:=Int.tmod_nonneg _ (by omega);have b1:Int.tmod (Int.tmod n k + k) k < k:=Int.tmod_lt_of_pos _ (by omega);have hk:(k:Int)<=8:=by omega
 obtain ⟨r,hr⟩: ∃r:Nat,Int.tmod (Int.tmod n k + k) k=r:=⟨_,(Int.toNat_of_nonneg b0).symm⟩;have hrk:r < k:=by omega
 go_enter Tryz.func21,Tryz.ntmps21;go_wp2;go_ret;exact ⟨r,hrk,by rw [<-hr];go_num,Fr.refl _ _⟩
theorem URep.keepInit {w w':World}{B:UB}{n:Nat}{dv pv:Value}{M':Nat->Prop}(h:URep w B n St.init dv pv false)(f:Fr M' w w')(hd: ∀b,B.M b-> ¬M' b)(hpo:B.po=none):URep w' B n St.init dv pv false:=by
 obtain ⟨hu,hj,hk,h1,h2,h3,h4,h5,h6⟩:=h;refine ⟨?_,fun hn=> ?_,fun hn=> ?_,h1,h2,h3,h4,⟨Nat.lt_of_lt_of_le h5.1 f.size,fun hn=>⟨Nat.lt_of_lt_of_le (h5.2 hn).1 f.size,Nat.lt_of_lt_of_le (h5.2 hn).2 f.size⟩⟩,fun o ho=>by rw [hpo] at ho;cases ho⟩
 ·obtain ⟨ja,cj,ka,ck,h,h'⟩:=hu
  exact ⟨ja,cj,ka,ck,f.heap (hd _ (.inl rfl)) h,h'⟩
 ·obtain ⟨c,h,h'⟩:=hj hn
  exact ⟨c,f.heap (hd _ (.inr (.inl rfl))) h,h'⟩
 ·obtain ⟨c,h,h'⟩:=hk hn
  refine ⟨c,f.heap (hd _ (.inr (.inr (.inl rfl)))) h,fun p hp=> ?_⟩;obtain ⟨y,a0,a1,a2,a3,a4,a5,a6,a7⟩:=h' p hp;exact ⟨y,a0,a1,a2,a3,a4,a5,a6,fun t ht=>by simp [St.init] at ht⟩
theorem agree_some {D:zE}{M:Mg}{nd:Nat}{ar:Nat->Nat}{o:Option St}{q:Option St}(h:AgreeN D M nd ar (okO o) q):o.isSome=q.isSome:=by
 cases o with
 |none=>rw [show q=none from h]
 |some s=>obtain ⟨s',rfl,_⟩:=h;rfl
theorem sym_fact {w:World}{da:Option Addr}{dl n:Nat}{ar:Nat->Nat}{D:zE}{x y:TyV}{s t:Tm}(h:LIn w da dl ar D n)(hx:TIn w dl ar n x s)(hy:TIn w dl ar n y t){m:Uni.Mode}{o1 o2:Option St}
 (h1:RefFact D s t m o1) (h2:RefFact D t s m o2):o1.isSome=o2.isSome:=by
 obtain ⟨⟨M,hM,hq⟩,hr⟩:=h1;obtain ⟨okk,a,b,ha,hb,hab⟩:=hq (s,t) (by simp);obtain ⟨q,hn,_⟩:=nifyT_ends h.d.ok hM 50 a b St.init s t m (by omega) okk ha hb (Inv.init M);have fine:Fine D M dl ar 50 St.init s t:=⟨⟨a,b,by omega,ha,hb⟩,okk,Inv.init M,hx.fit,hy.fit,fun P t h=>by simp [St.init] at h⟩;by_cases hm:m= .assign
 ·subst hm
  have e1:=(sim_assign h.d.ok hM h.d.body 50 50 St.init s t fine _ hr).1 q hn;have e2:=(sim_assign h.d.ok hM h.d.body 50 50 St.init t s fine.symm _ h2.2).2 q hn;rw [agree_some e1,agree_some e2]
 ·have e1:=(sim h.d.ok hM h.d.body 50 50 St.init s t m hm fine _ hr).1 q hn
  have e2:=(sim h.d.ok hM h.d.body 50 50 St.init t s m hm fine.symm _ h2.2).2 q hn;rw [agree_some (yM.near (D:=D) (M:=M) (nd:=dl) (ar:=ar) e1),agree_some (yM.near (D:=D) (M:=M) (nd:=dl) (ar:=ar) e2)]
theorem fnSymmetric {da:Option Addr}{dl dc:Nat}(n:Int)(w:World)(h:ArgIn w da dl dc)(x y:TyV)(hx:Raw w x)(hy:Raw w y)(z:Int):
 Calls Tryz.prog 7 #[.slice da dl dc,.int .i64 n,x.val,y.val,.int .i64 z] w (YesB w):=by
 have HH:=hid h;have HX:=hid hx;have HY:=hid hy;clear h hx hy;unfold TyV.val;have FW:=hid (((Fr.refl F0 w).alloc (.cells #[.int .i64 x.k,.int .i64 x.n,.int .i64 x.c,.bool x.v,.slice x.a x.len x.cap,.string x.nm] 26)).alloc (.cells #[.int .i64 y.k,.int .i64 y.n,.int .i64 y.c,.bool y.v,.slice y.a y.len y.cap,.string y.nm] 26));by_cases hbig:(2147483647:Int) < dl
 ·go_enter Tryz.func7,Tryz.ntmps7
  go_wp2;go_ret;exact ⟨rfl,FW.out⟩
 have BIG:decide ((2147483647:Int) < dl)=false:=by simpa using hbig
 clear hbig;go_enter Tryz.func7,Tryz.ntmps7;go_wp2_with fail
 refine (fits_any x _ HX.out.small).mono ?_;rintro e w1 ⟨b1,rfl,hf1⟩;have F1:=hid (FW.out.trans hf1);have BX1:=hid (hf1.heap id (show ((w.alloc (.cells #[.int .i64 x.k,.int .i64 x.n,.int .i64 x.c,.bool x.v,.slice x.a x.len x.cap,.string x.nm] 26)).alloc (.cells #[.int .i64 y.k,.int .i64 y.n,.int .i64 y.c,.bool y.v,.slice y.a y.len y.cap,.string y.nm] 26)).heap[w.heap.size]?=_ from ((Fr.refl F0 _).alloc _).heap id (heap_alloc_new w _)))
 have BY1:=hid (hf1.heap id (zS w (.cells #[.int .i64 x.k,.int .i64 x.n,.int .i64 x.c,.bool x.v,.slice x.a x.len x.cap,.string x.nm] 26) (.cells #[.int .i64 y.k,.int .i64 y.n,.int .i64 y.c,.bool y.v,.slice y.a y.len y.cap,.string y.nm] 26)));clear hf1;cases b1
 ·go_wp2
  go_ret;exact ⟨rfl,F1.out⟩
 have y1:=zA BY1.out;have s1:=bl (y1 0);go_wp2_with fail
 refine (fits_any y _ HY.out.small).mono ?_;rintro e w2 ⟨b2,rfl,hf2⟩;have F2:=hid (F1.out.trans hf2);have BX2:=hid (hf2.heap id BX1.out);have BY2:=hid (hf2.heap id BY1.out);clear hf2 y1 s1;cases b2
 ·go_wp2
  go_ret;exact ⟨rfl,F2.out⟩
 have x2:=zA BX2.out;have y2:=zA BY2.out;have s2:=bl (x2 0);have t2:=bl (y2 0);obtain ⟨ps,hps⟩:=HH.out.d;have PS:=hid hps;clear hps;go_wp2_with fail
 have FA:=hid (F2.out.alloc (.cells (arr12 x y) 26));refine (valid_any da dl dc n (some ⟨w2.heap.size,0,none⟩) 2 2 ps [x,y] (w2.alloc (.cells (arr12 x y) 26)) (PS.out.keep FA.out) (rawL_two (heap_alloc_new w2 _) (HX.out.keep FA.out) (HY.out.keep FA.out))).mono ?_;rintro e w3 ⟨b3,rfl,hf3,hv⟩;have F3:=hid (FA.out.trans hf3);have BX3:=hid (hf3.heap id (((Fr.refl F0 w2).alloc _).heap id BX2.out));have BY3:=hid (hf3.heap id (((Fr.refl F0 w2).alloc _).heap id BY2.out))
 cases b3
 ·clear hf3 hv x2 y2 s2 t2
  go_wp2;go_ret;exact ⟨rfl,F3.out⟩
 obtain ⟨N,ar,D,s,t,rfl,hL,hS,hT⟩:=valid_two (hv rfl) (HH.out.tab.keep FA.out) hf3;have LI:=hid hL;have HS:=hid hS;have HT:=hid hT;clear hf3 hv x2 y2 s2 t2 hL hS hT;go_wp2_with fail
 refine (place_any z 3 w3 (by omega) (by omega)).mono ?_;rintro e w4 ⟨r,hr,rfl,hf4⟩;have F4:=hid hf4
 obtain ⟨m,hm⟩: ∃m:Uni.Mode,(r:Int)=zU m:=by
  match r,hr with
  |0,_=>exact ⟨.exact,rfl⟩
  |1,_=>exact ⟨.assign,rfl⟩
  |2,_=>exact ⟨.loose,rfl⟩
 rw [hm];clear hm hr hf4 r;go_wp2_with fail
 refine (new_any N da dl dc w4 LI.out.n8).mono ?_;rintro e w5 ⟨B,rfl,hU5,hf5,hM5,hp5⟩;have F5:=hid (F4.out.trans hf5);have HB:=hid hM5;have BU:=hid hU5;have S45:=hid hf5.size;clear hU5 hf5 hM5 hp5;go_wp2_with fail
 refine (new_any N da dl dc w5 LI.out.n8).mono ?_;rintro e w6 ⟨C,rfl,hU6,hf6,hM6,hp6⟩;have F6:=hid (F5.out.trans hf6);have HC:=hid hM6;have CU:=hid hU6;have BU6:=hid (BU.out.keep hf6);have PC:=hid hp6;have HB3:=hid (show ∀b,B.M b->w3.heap.size<=b/\b < w6.heap.size from fun b hb=>⟨Nat.le_trans F4.out.size (HB.out b hb).1,Nat.lt_of_lt_of_le (HB.out b hb).2 hf6.size⟩);have HC3:=hid (show ∀b,C.M b->w3.heap.size<=b/\b < w6.heap.size from fun b hb=>⟨Nat.le_trans F5.out.size (HC.out b hb).1,(HC.out b hb).2⟩)
 clear hU6 hf6 hM6 hp6;have x6:=zA (F6.out.heap id BX3.out);have y6:=zA (F6.out.heap id BY3.out);have s6:=bl (x6 0);have t6:=bl (y6 0);go_wp2_with fail
 refine (ref_unify (x:=x) (y:=y) (s:=s) (t:=t) LI.out.d.goodD LI.out.d.ok m ⟨uenv_new LI.out F6.out BU6.out HB3.out,xin_new HS.out F6.out HB3.out,xin_new HT.out F6.out HB3.out⟩).mono ?_;rintro e w7 ⟨b1,sl1,rfl,hf7,hc1,ho1⟩;have F7:=hid (F6.out.transNew hf7 fun b hb=> .inr (HB3.out b hb).1);have CU7:=hid (CU.out.keepInit hf7 (fun b hb hb'=>by have:=(HC.out b hb).1;have:=(HB.out b hb').2;omega) PC.out)
 have HC7:=hid (show ∀b,C.M b->w3.heap.size<=b/\b < w7.heap.size from fun b hb=>⟨(HC3.out b hb).1,Nat.lt_of_lt_of_le (HC3.out b hb).2 hf7.size⟩);have C1:=hid hc1;have O1:=hid ho1;clear hf7 hc1 ho1 x6 y6 s6 t6;have x7:=zA (F7.out.heap id BX3.out);have y7:=zA (F7.out.heap id BY3.out);have s7:=bl (x7 0);have t7:=bl (y7 0);go_wp2_with fail
 refine (ref_unify (x:=y) (y:=x) (s:=t) (t:=s) LI.out.d.goodD LI.out.d.ok m ⟨uenv_new LI.out F7.out CU7.out HC7.out,xin_new HT.out F7.out HC7.out,xin_new HS.out F7.out HC7.out⟩).mono ?_;rintro e w8 ⟨b2,sl2,rfl,hf8,hc2,ho2⟩;have F8:=hid (F7.out.transNew hf8 fun b hb=> .inr (HC7.out b hb).1);have c1:=hf8.cell (p:=⟨B.u,4,none⟩) (show ¬C.M B.u from fun hb=>by have:=(HC.out _ hb).1;have:=(HB.out B.u (.inl rfl)).2;omega) C1.out
 have c2:=hc2;have sb:=World.block_lt_of_cell? _ _ c1;have sc:=World.block_lt_of_cell? _ _ c2;dsimp only at sb sc;have O2:=hid ho2;clear hf8 hc2 ho2 x7 y7 s7 t7;cases sl1
 ·cases sl2
  ·obtain ⟨o1,h1,_⟩:=O1.out rfl
   obtain ⟨o2,h2,_⟩:=O2.out rfl;have SYM:=hid (sym_fact LI.out HS.out HT.out h1 h2);have E1:=hid h1;have E2:=hid h2;clear h1 h2;have x8:=zA (F8.out.heap id BX3.out);have y8:=zA (F8.out.heap id BY3.out);have s8:=bl (x8 0);have t8:=bl (y8 0);go_wp2_with fail
   refine (impl_unify dc (LI.out.keep F8.out) m (HS.out.keep F8.out) (HT.out.keep F8.out) E1.out).mono ?_;rintro e w9 ⟨a9,c9,ls9,z9,rfl,hf9,_,_,_,_⟩;have F9:=hid (F8.out.trans hf9);clear hf9 x8 y8 s8 t8;have x9:=zA (F9.out.heap id BX3.out);have y9:=zA (F9.out.heap id BY3.out);have s9:=bl (x9 0);have t9:=bl (y9 0);go_wp2_with fail
   refine (impl_unify dc (LI.out.keep F9.out) m (HT.out.keep F9.out) (HS.out.keep F9.out) E2.out).mono ?_;rintro e w10 ⟨a10,c10,ls10,z10,rfl,hf10,_,_,_,_⟩;have F10:=hid (F9.out.trans hf10);clear hf10 x9 y9 s9 t9;rw [SYM.out];go_wp2_with fail
   refine (works_any w10 (LI.out.tab.keep F10.out)).mono ?_;rintro e w11 ⟨rfl,hf11⟩;have F11:=hid (F3.out.trans (F10.out.trans hf11));clear hf11;go_wp2;go_ret;exact ⟨rfl,F11.out⟩
  ·go_wp2_with fail
   refine (works_any w8 (LI.out.tab.keep F8.out)).mono ?_;rintro e w9 ⟨rfl,hf9⟩;have F9:=hid (F3.out.trans (F8.out.trans hf9));clear hf9;go_wp2;go_ret;exact ⟨rfl,F9.out⟩
 ·go_wp2_with fail
  refine (works_any w8 (LI.out.tab.keep F8.out)).mono ?_;rintro e w9 ⟨rfl,hf9⟩;have F9:=hid (F3.out.trans (F8.out.trans hf9));clear hf9;go_wp2;go_ret;exact ⟨rfl,F9.out⟩
end Go.Proofs.YtpekidjfbinekaaGreatDoor
