/-   The law FnTwiceAssign. -/
import Derived.Test.YtpekidjfbinekaaGreatDoorL7V
set_option maxRecDepth 100000
set_option maxHeartbeats 60000000
set_option linter.all false
namespace Uni
section
variable {D:zE}{M:Mg}{nd:Nat}{ar:Nat->Nat}
theorem init_assign (hD:zZ D)(hM:Closed D M)(hB: ∀i,AllL (wM nd ar) (D i))(N k:Nat)(s:St)(hs: ∀i,s.v i=none)(x y:Tm)(h:Fine D M nd ar N s x y)(r:Res)(e:zI D N s x y .assign=some r):
 ∀q,zJ D k s x y .assign=some q->yM r q:=by
 intro q e'
 cases N with
 |zero=>cases e
 |succ N=>
 cases k with
 |zero=>cases e'
 |succ k=>
  have mt: ∀(p:Nat) (g:Lab) (bs:List Tm),zX N (zI D N) s (s.j p) (.node g bs) .assign=some r→yB (zJ D k) s p (.node g bs) .assign=some q→yM r q:=by
   intro p g bs e e';unfold zX at e;unfold yB St.get at e';rw [hs] at e e';dsimp only at e e'
   split at e
   ·cases e;cases e';exact .ok_
   ·cases e
  cases x with
  |var p=>
   cases y with
   |var p'=>
    rw [zI] at e;rw [zJ] at e';unfold yU at e;unfold yW St.get at e';by_cases hj:s.j p=s.j p'
    ·rw [if_pos hj] at e;rw [if_pos hj.symm] at e'
     cases e;cases e';exact .ok_
    ·rw [if_neg hj,hs,hs] at e;rw [if_neg (Ne.symm hj),hs,hs] at e'
     cases e;cases e';rw [join_comm s (s.j p) (s.j p') (.inl (hs _))];exact .ok_
   |node g bs=>rw [zI] at e;rw [zJ] at e';exact mt p g bs e e'
  |node f fs=>
   cases y with
   |var p=>rw [zI] at e;rw [zJ] at e';exact mt p f fs e e'
   |node g bs=>
    rw [zI] at e;exact (nodes_sim hD hM hB (fun N' _=>sim hD hM hB N') (k + 1) s f fs g bs .assign h r e).1 q e'
end
end Uni
namespace Go.Proofs.YtpekidjfbinekaaGreatDoor
open Go.RowKit Uni
section
variable {w:World}{da:Option Addr}{dl dc n:Nat}{ar:Nat->Nat}{D:zE}{x y x2 y2:TyV}{s t s2 t2:Tm}
theorem jointA_two (h:LIn w da dl ar D n)(hx:TIn w dl ar n x s)(hy:TIn w dl ar n y t)(hx2:TIn w dl ar n x2 s2)(hy2:TIn w dl ar n y2 t2)(hT:Tame D [(s,t),(s2,t2)]){s1:St}(hr:zI D 50 St.init s t .assign=some (.ok s1)){r:Res}(hr2:zI D 50 s1 s2 t2 .assign=some r):
 PairsOk D .assign St.init [(s,t),(s2,t2)]∧ ∀oks s',PairsR D .assign St.init [(s,t),(s2,t2)] oks s'→(r= .fail→okB oks 2=false)∧
  ∀sE,r= .ok sE->okB oks 2=true/\yS (WQ dl ar n) s'/\ ∃M,Closed D M/\Inv M sE/\Live D M sE/\Near D M dl ar sE s':=by
 obtain ⟨M,hM,hq⟩:=hT;obtain ⟨ok1,a,b,ha,hb,hab⟩:=hq (s,t) (by simp);obtain ⟨ok2,a2,b2,ha2,hb2,hab2⟩:=hq (s2,t2) (by simp);have fine:Fine D M dl ar 50 St.init s t:=⟨⟨a,b,by omega,ha,hb⟩,ok1,Inv.init M,hx.fit,hy.fit,fun P t h=>by simp [St.init] at h⟩;obtain ⟨hi,hfit⟩:=fine.post hM h.d.body hr;have fine2:Fine D M dl ar 50 s1 s2 t2:=⟨⟨a2,b2,by omega,ha2,hb2⟩,ok2,hi,hx2.fit,hy2.fit,hfit⟩;obtain ⟨q,hq1,_⟩:=nifyT_ends h.d.ok hM 50 a b St.init s t .assign (by omega) ok1 ha hb (Inv.init M)
 have e1:=init_assign h.d.ok hM h.d.body 50 50 St.init (fun _=>rfl) s t fine _ hr q hq1;obtain rfl:=e1.get;obtain ⟨q2,hq2,_⟩:=nifyT_ends h.d.ok hM 50 a2 b2 s1 s2 t2 .assign (by omega) ok2 ha2 hb2 hi;have e2:=(sim_assign h.d.ok hM h.d.body 50 50 s1 s2 t2 fine2 _ hr2).1 q2 hq2;refine ⟨⟨some s1,hq1,fun s1' e=>by cases e;exact ⟨q2,hq2,fun _ _=>trivial⟩⟩,fun oks s' hp=> ?_⟩
 cases hp with
 |fail _ _ _ _ _ h1=>rw [hq1] at h1;cases h1
 |ok _ s1' _ _ _ _ os h1 h2=>
  rw [hq1] at h1;cases h1;refine ⟨fun e=> ?_,fun sE e=> ?_⟩
  ·subst e
   obtain rfl:q2=none:=e2
   cases h2 with
   |ok _ s3 _ _ _ _ os h3 h4=>rw [hq2] at h3;cases h3
   |fail=>rfl
  ·subst e
   obtain ⟨s4,rfl,hn⟩:=e2
   cases h2 with
   |fail _ _ _ _ _ h3=>rw [hq2] at h3;cases h3
   |ok _ s3 _ _ _ _ os h3 h4=>
    rw [hq2] at h3;cases h3;cases h4
    have w1:yS (WQ dl ar n) s1:=nify_wq h.d ⟨hx.fit,hx.h2⟩ ⟨hy.fit,hy.h2⟩ (fun P t h=>by simp [St.init] at h) (ren_id _) hq1;refine ⟨rfl,nify_wq h.d ⟨hx2.fit,hx2.h2⟩ ⟨hy2.fit,hy2.h2⟩ w1 (ren_id _) hq2,M,hM,(fine2.post hM h.d.body hr2).1,?_,hn⟩;exact live hM h.d.body 50 s1 s2 t2 .assign _ fine2 (live hM h.d.body 50 St.init s t .assign s1 fine Live.init hr) hr2
end
theorem fnTwiceAssign {da:Option Addr}{dl dc:Nat}(n:Int)(w:World)(h:ArgIn w da dl dc)(x y x2 y2:TyV)(hx:Raw w x)(hy:Raw w y)(hx2:Raw w x2)(hy2:Raw w y2):
 Calls Tryz.prog 12 #[.slice da dl dc,.int .i64 n,x.val,y.val,x2.val,y2.val] w (YesB w):=by
 have HH:=hid h;have HX:=hid hx;have HY:=hid hy;have HX2:=hid hx2;have HY2:=hid hy2;clear h hx hy hx2 hy2;unfold TyV.val;by_cases hbig:(2147483647:Int) < dl
 ·go_enter Tryz.func12,Tryz.ntmps12
  go_wp2;go_ret;exact ⟨rfl,((((Fr.refl F0 w).alloc _).alloc _).alloc _).alloc _⟩
 have BIG:decide ((2147483647:Int) < dl)=false:=by simpa using hbig
 clear hbig;go_enter Tryz.func12,Tryz.ntmps12;go_wp2_with fail
 obtain ⟨W,hW⟩: ∃W,W=((((w.alloc (.cells #[.int .i64 x.k,.int .i64 x.n,.int .i64 x.c,.bool x.v,.slice x.a x.len x.cap,.string x.nm] 26)).alloc (.cells #[.int .i64 y.k,.int .i64 y.n,.int .i64 y.c,.bool y.v,.slice y.a y.len y.cap,.string y.nm] 26)).alloc (.cells #[.int .i64 x2.k,.int .i64 x2.n,.int .i64 x2.c,.bool x2.v,.slice x2.a x2.len x2.cap,.string x2.nm] 26)).alloc (.cells #[.int .i64 y2.k,.int .i64 y2.n,.int .i64 y2.c,.bool y2.v,.slice y2.a y2.len y2.cap,.string y2.nm] 26)):=⟨_,rfl⟩
 have FW:=hid (show Fr F0 w W by rw [hW];exact ((((Fr.refl F0 w).alloc _).alloc _).alloc _).alloc _);have BX:=hid (show W.heap[w.heap.size]?=some (.cells #[.int .i64 x.k,.int .i64 x.n,.int .i64 x.c,.bool x.v,.slice x.a x.len x.cap,.string x.nm] 26 (0,0)) by rw [hW];exact ((((Fr.refl F0 _).alloc _).alloc _).alloc _).heap id (heap_alloc_new w _));have BY:=hid (show W.heap[w.heap.size + 1]?=some (.cells #[.int .i64 y.k,.int .i64 y.n,.int .i64 y.c,.bool y.v,.slice y.a y.len y.cap,.string y.nm] 26 (0,0)) by rw [hW];exact (((Fr.refl F0 _).alloc _).alloc _).heap id (zS w _ _))
 have BX2:=hid (show W.heap[w.heap.size + 1 + 1]?=some (.cells #[.int .i64 x2.k,.int .i64 x2.n,.int .i64 x2.c,.bool x2.v,.slice x2.a x2.len x2.cap,.string x2.nm] 26 (0,0)) by rw [hW];exact ((Fr.refl F0 _).alloc _).heap id (heap_three w _ _ _))
 have BY2:=hid (show W.heap[w.heap.size + 1 + 1 + 1]?=some (.cells #[.int .i64 y2.k,.int .i64 y2.n,.int .i64 y2.c,.bool y2.v,.slice y2.a y2.len y2.cap,.string y2.nm] 26 (0,0)) by
  rw [hW];have h:=heap_alloc_new (((w.alloc (.cells #[.int .i64 x.k,.int .i64 x.n,.int .i64 x.c,.bool x.v,.slice x.a x.len x.cap,.string x.nm] 26)).alloc (.cells #[.int .i64 y.k,.int .i64 y.n,.int .i64 y.c,.bool y.v,.slice y.a y.len y.cap,.string y.nm] 26)).alloc (.cells #[.int .i64 x2.k,.int .i64 x2.n,.int .i64 x2.c,.bool x2.v,.slice x2.a x2.len x2.cap,.string x2.nm] 26)) (.cells #[.int .i64 y2.k,.int .i64 y2.n,.int .i64 y2.c,.bool y2.v,.slice y2.a y2.len y2.cap,.string y2.nm] 26)
  simp only [World.size_alloc] at h;exact h)
 rw [<-hW];clear hW;refine (fits_any x _ HX.out.small).mono ?_;rintro e w1 ⟨b1,rfl,hf1⟩;have F1:=hid hf1;clear hf1;cases b1
 ·go_wp2
  go_ret;exact ⟨rfl,FW.out.trans F1.out⟩
 have c1_0:=zA (F1.out.heap id BX.out);have z1_0:=bl (c1_0 0);have c1_1:=zA (F1.out.heap id BY.out);have z1_1:=bl (c1_1 0);have c1_2:=zA (F1.out.heap id BX2.out);have z1_2:=bl (c1_2 0);have c1_3:=zA (F1.out.heap id BY2.out);have z1_3:=bl (c1_3 0);go_wp2_with fail
 refine (fits_any y _ HY.out.small).mono ?_;rintro e w2 ⟨b2,rfl,hf2⟩;have F2:=hid (F1.out.trans hf2);clear hf2;clear c1_0 z1_0 c1_1 z1_1 c1_2 z1_2 c1_3 z1_3;cases b2
 ·go_wp2
  go_ret;exact ⟨rfl,FW.out.trans F2.out⟩
 have c2_0:=zA (F2.out.heap id BX.out);have z2_0:=bl (c2_0 0);have c2_1:=zA (F2.out.heap id BY.out);have z2_1:=bl (c2_1 0);have c2_2:=zA (F2.out.heap id BX2.out);have z2_2:=bl (c2_2 0);have c2_3:=zA (F2.out.heap id BY2.out);have z2_3:=bl (c2_3 0);go_wp2_with fail
 refine (fits_any x2 _ HX2.out.small).mono ?_;rintro e w3 ⟨b3,rfl,hf3⟩;have F3:=hid (F2.out.trans hf3);clear hf3;clear c2_0 z2_0 c2_1 z2_1 c2_2 z2_2 c2_3 z2_3;cases b3
 ·go_wp2
  go_ret;exact ⟨rfl,FW.out.trans F3.out⟩
 have c3_0:=zA (F3.out.heap id BX.out);have z3_0:=bl (c3_0 0);have c3_1:=zA (F3.out.heap id BY.out);have z3_1:=bl (c3_1 0);have c3_2:=zA (F3.out.heap id BX2.out);have z3_2:=bl (c3_2 0);have c3_3:=zA (F3.out.heap id BY2.out);have z3_3:=bl (c3_3 0);go_wp2_with fail
 refine (fits_any y2 _ HY2.out.small).mono ?_;rintro e w4 ⟨b4,rfl,hf4⟩;have F4:=hid (F3.out.trans hf4);clear hf4;clear c3_0 z3_0 c3_1 z3_1 c3_2 z3_2 c3_3 z3_3;cases b4
 ·go_wp2
  go_ret;exact ⟨rfl,FW.out.trans F4.out⟩
 have c4_0:=zA (F4.out.heap id BX.out);have z4_0:=bl (c4_0 0);have c4_1:=zA (F4.out.heap id BY.out);have z4_1:=bl (c4_1 0);have c4_2:=zA (F4.out.heap id BX2.out);have z4_2:=bl (c4_2 0);have c4_3:=zA (F4.out.heap id BY2.out);have z4_3:=bl (c4_3 0);obtain ⟨ps,hps⟩:=HH.out.d;have PS:=hid hps;clear hps;go_wp2_with fail
 have FA:=hid (FW.out.trans (F4.out.alloc (.cells (arr24 x y x2 y2) 26)));refine (valid_any da dl dc n (some ⟨w4.heap.size,0,none⟩) 4 4 ps [x,y,x2,y2] (w4.alloc (.cells (arr24 x y x2 y2) 26)) (PS.out.keep FA.out) (rawL_four (heap_alloc_new w4 _) (HX.out.keep FA.out) (HY.out.keep FA.out) (HX2.out.keep FA.out) (HY2.out.keep FA.out))).mono ?_;rintro e w5 ⟨b5,rfl,hf5,hv⟩;have F5:=hid ((F4.out.alloc (.cells (arr24 x y x2 y2) 26)).trans hf5)
 clear c4_0 z4_0 c4_1 z4_1 c4_2 z4_2 c4_3 z4_3;cases b5
 ·clear hf5 hv
  go_wp2;go_ret;exact ⟨rfl,FW.out.trans F5.out⟩
 obtain ⟨N,ar,D,s,t,s2,t2,rfl,hL,hS,hT,hS2,hT2⟩:=valid_four (hv rfl) (HH.out.tab.keep FA.out) hf5;have LI:=hid hL;have HS:=hid hS;have HT:=hid hT;have HS2:=hid hS2;have HT2:=hid hT2;clear hf5 hv hL hS hT hS2 hT2;clear HX HY HX2 HY2 PS;go_wp2_with fail
 refine (new_any N da dl dc w5 LI.out.n8).mono ?_;rintro e w6 ⟨B,rfl,hU6,hf6,hM6,hp6⟩;have G6:=hid hf6;have HM:=hid hM6;have UE:=hid (uenv_new LI.out hf6 hU6 hM6);have XI:=hid (xin_new HS.out hf6 hM6);have YI:=hid (xin_new HT.out hf6 hM6);clear hU6 hf6 hM6 hp6;have c6_0:=zA ((F5.out.trans G6.out).heap id BX.out);have z6_0:=bl (c6_0 0);have c6_1:=zA ((F5.out.trans G6.out).heap id BY.out);have z6_1:=bl (c6_1 0)
 have c6_2:=zA ((F5.out.trans G6.out).heap id BX2.out);have z6_2:=bl (c6_2 0);have c6_3:=zA ((F5.out.trans G6.out).heap id BY2.out);have z6_3:=bl (c6_3 0);go_wp2_with fail
 refine (unify18_any LI.out.d.goodD LI.out.d.ok s t x y .assign w6 B N St.init (.slice none 0 0) [] [] UE.out ⟨rfl,World.ownsRow_nil _ _ _ _,fun i p q h=>by simp at h⟩ (by simp) (fun g hg=>by cases hg) XI.out YI.out (Reached.init D)).mono ?_;rintro e w7 ⟨B',pv',hBu,hf7,hM7,hcase⟩;have G7:=hid (G6.out.transNew hf7 fun b hb=> .inr (HM.out b hb).1);have HM7:=hid (show ∀b,B'.M b->w5.heap.size<=b/\b < w7.heap.size from fun b hb=>⟨(hM7 b hb).1.elim (fun h=>(HM.out b h).1) (fun h=>Nat.le_trans G6.out.size h),(hM7 b hb).2⟩)
 clear hf7 hM7;clear c6_0 z6_0 c6_1 z6_1 c6_2 z6_2 c6_3 z6_3;rcases hcase with ⟨rfl,s',hU7⟩ | ⟨rfl,hT,hr,s',hU7⟩ | ⟨rfl,hT,s1,hr,hE7,hP7,hpo7⟩
 ·
  obtain ⟨ja,cj,ka,ck,hu,_⟩:=hU7.u;have u4:=zA hu 4;have su:=World.block_lt_of_cell? _ _ (u4.trans rfl);dsimp only at su;rw [hBu] at u4 su;clear hu;clear hU7;go_wp2_with fail
  refine (works_any w7 (LI.out.tab.keep G7.out)).mono ?_;rintro e w8 ⟨rfl,hf8⟩;have FZ:=hid (FW.out.trans (F5.out.trans (G7.out.trans hf8)));clear hf8;go_wp2;go_ret;exact ⟨rfl,FZ.out⟩
 ·
  have TW:=hid (joint_fail LI.out HS.out HT.out hT hr s2 t2);obtain ⟨ja,cj,ka,ck,hu,_⟩:=hU7.u;have u4:=zA hu 4;have su:=World.block_lt_of_cell? _ _ (u4.trans rfl);dsimp only at su;rw [hBu] at u4 su;clear hu;clear hU7 hT hr;have c7_0:=zA ((F5.out.trans G7.out).heap id BX.out);have z7_0:=bl (c7_0 0);have c7_1:=zA ((F5.out.trans G7.out).heap id BY.out);have z7_1:=bl (c7_1 0);have c7_2:=zA ((F5.out.trans G7.out).heap id BX2.out)
  have z7_2:=bl (c7_2 0);have c7_3:=zA ((F5.out.trans G7.out).heap id BY2.out);have z7_3:=bl (c7_3 0);go_wp2_with fail
  refine (twice28_any (dc:=dc) w7 (LI.out.keep G7.out).din .assign x y x2 y2 s t s2 t2 (HS.out.keep G7.out) (HT.out.keep G7.out) (HS2.out.keep G7.out) (HT2.out.keep G7.out) TW.out.1).mono ?_;rintro e w8 ⟨la,lc,ls,oks,sz,rfl,hf8,hp,hll,hinf,hlc⟩;have G8:=hid (G7.out.trans hf8);rw [show okB oks ([(s,t),(s2,t2)]:List (Tm × Tm)).length=false from TW.out.2 oks sz hp];clear hf8 hp hll hinf;clear c7_0 z7_0 c7_1 z7_1 c7_2 z7_2 c7_3 z7_3
  go_wp2_with fail
  refine (works_any w8 (LI.out.tab.keep G8.out)).mono ?_;rintro e w9 ⟨rfl,hf9⟩;have FZ:=hid (FW.out.trans (F5.out.trans (G8.out.trans hf9)));clear hf9;go_wp2;go_ret;exact ⟨rfl,FZ.out⟩
 ·
  have E7:=hid hE7;have P7:=hid hP7;have PO:=hid hpo7;have HR:=hid hr;have BU:=hid hBu;clear hE7 hP7 hpo7 hT;have hBu2:=hBu;have RE:=hid ((Reached.init D).next hr);clear hr hBu;have c7_0:=zA ((F5.out.trans G7.out).heap id BX.out);have z7_0:=bl (c7_0 0);have c7_1:=zA ((F5.out.trans G7.out).heap id BY.out);have z7_1:=bl (c7_1 0);have c7_2:=zA ((F5.out.trans G7.out).heap id BX2.out);have z7_2:=bl (c7_2 0)
  have c7_3:=zA ((F5.out.trans G7.out).heap id BY2.out);have z7_3:=bl (c7_3 0);have UN:=hid (unify18_any LI.out.d.goodD LI.out.d.ok s2 t2 x2 y2 .assign w7 B' N s1 pv' ([] ++ [(s,t)]) ([] ++ [(x,y)]) E7.out P7.out (by simp) PO.out (xin_new HS2.out G7.out HM7.out) (xin_new HT2.out G7.out HM7.out) RE.out);rw [hBu2] at UN;clear hBu2;go_wp2_with fail
  refine UN.out.mono ?_;rintro e w8 ⟨C,qv,hBu,hf8,hM8,hcase⟩;rw [BU.out] at hBu;have G8:=hid (G7.out.transNew hf8 fun b hb=> .inr (HM7.out b hb).1);have HM8:=hid (show ∀b,C.M b->w5.heap.size<=b/\b < w8.heap.size from fun b hb=>⟨(hM8 b hb).1.elim (fun h=>(HM7.out b h).1) (fun h=>Nat.le_trans G7.out.size h),(hM8 b hb).2⟩);clear hf8 hM8 UN;clear c7_0 z7_0 c7_1 z7_1 c7_2 z7_2 c7_3 z7_3;rcases hcase with ⟨rfl,s',hU8⟩ | ⟨rfl,hT,hr,s',hU8⟩ | ⟨rfl,hT,sE,hr,hE8,_,_⟩
  ·
   obtain ⟨ja,cj,ka,ck,hu,_⟩:=hU8.u;have u4:=zA hu 4;have su:=World.block_lt_of_cell? _ _ (u4.trans rfl);dsimp only at su;rw [hBu] at u4 su;clear hu;clear hU8;go_wp2_with fail
   refine (works_any w8 (LI.out.tab.keep G8.out)).mono ?_;rintro e w9 ⟨rfl,hf9⟩;have FZ:=hid (FW.out.trans (F5.out.trans (G8.out.trans hf9)));clear hf9;go_wp2;go_ret;exact ⟨rfl,FZ.out⟩
  ·have TW:=hid (jointA_two LI.out HS.out HT.out HS2.out HT2.out (by simpa using hT) HR.out hr)
   obtain ⟨ja,cj,ka,ck,hu,_⟩:=hU8.u;have u4:=zA hu 4;have su:=World.block_lt_of_cell? _ _ (u4.trans rfl);dsimp only at su;rw [hBu] at u4 su;clear hu;clear hU8 hT hr;have c8_0:=zA ((F5.out.trans G8.out).heap id BX.out);have z8_0:=bl (c8_0 0);have c8_1:=zA ((F5.out.trans G8.out).heap id BY.out);have z8_1:=bl (c8_1 0);have c8_2:=zA ((F5.out.trans G8.out).heap id BX2.out);have z8_2:=bl (c8_2 0);have c8_3:=zA ((F5.out.trans G8.out).heap id BY2.out)
   have z8_3:=bl (c8_3 0);go_wp2_with fail
   refine (twice28_any (dc:=dc) w8 (LI.out.keep G8.out).din .assign x y x2 y2 s t s2 t2 (HS.out.keep G8.out) (HT.out.keep G8.out) (HS2.out.keep G8.out) (HT2.out.keep G8.out) TW.out.1).mono ?_;rintro e w9 ⟨la,lc,ls,oks,sz,rfl,hf9,hp,hll,hinf,hlc⟩;have G9:=hid (G8.out.trans hf9);rw [show okB oks ([(s,t),(s2,t2)]:List (Tm × Tm)).length=false from (TW.out.2 oks sz hp).1 (by first | rfl | trivial)];clear hf9 hp hll hinf
   clear c8_0 z8_0 c8_1 z8_1 c8_2 z8_2 c8_3 z8_3;go_wp2_with fail
   refine (works_any w9 (LI.out.tab.keep G9.out)).mono ?_;rintro e w10 ⟨rfl,hf10⟩;have FZ:=hid (FW.out.trans (F5.out.trans (G9.out.trans hf10)));clear hf10;go_wp2;go_ret;exact ⟨rfl,FZ.out⟩
  ·have TW:=hid (jointA_two LI.out HS.out HT.out HS2.out HT2.out (by simpa using hT) HR.out hr)
   have HE8:=hid hE8;obtain ⟨ja,cj,ka,ck,hu,_⟩:=hE8.U.u;have u4:=zA hu 4;have su:=World.block_lt_of_cell? _ _ (u4.trans rfl);dsimp only at su;rw [hBu] at u4 su;clear hu;have HBU:=hid hBu;clear hE8 hT hr hBu;have c8_0:=zA ((F5.out.trans G8.out).heap id BX.out);have z8_0:=bl (c8_0 0);have c8_1:=zA ((F5.out.trans G8.out).heap id BY.out);have z8_1:=bl (c8_1 0);have c8_2:=zA ((F5.out.trans G8.out).heap id BX2.out)
   have z8_2:=bl (c8_2 0);have c8_3:=zA ((F5.out.trans G8.out).heap id BY2.out);have z8_3:=bl (c8_3 0);go_wp2_with fail
   refine (twice28_any (dc:=dc) w8 (LI.out.keep G8.out).din .assign x y x2 y2 s t s2 t2 (HS.out.keep G8.out) (HT.out.keep G8.out) (HS2.out.keep G8.out) (HT2.out.keep G8.out) TW.out.1).mono ?_;rintro e w9 ⟨la,lc,ls,oks,sz,rfl,hf9,hp,hll,hinf,hlc⟩;have G9:=hid (G8.out.trans hf9);obtain ⟨hokb,hwq,M,hMc,hinv,hlive,hnear⟩:=(TW.out.2 oks sz hp).2 sE rfl;rw [show okB oks ([(s,t),(s2,t2)]:List (Tm × Tm)).length=true from hokb]
   have AGR:=hid (agrees_near HE8.out hinv hlive hnear hwq w9 hf9 la lc ls hll hinf);rw [HBU.out] at AGR;clear hf9 hp hll hinf hokb hwq hMc hinv hlive hnear u4 su;clear c8_0 z8_0 c8_1 z8_1 c8_2 z8_2 c8_3 z8_3;go_wp2_with fail
   refine AGR.out.mono ?_;rintro e w10 ⟨rfl,hf10⟩;have G10:=hid (G9.out.trans hf10);clear hf10;go_wp2_with fail
   refine (works_any w10 (LI.out.tab.keep G10.out)).mono ?_;rintro e w11 ⟨rfl,hf11⟩;have FZ:=hid (FW.out.trans (F5.out.trans (G10.out.trans hf11)));clear hf11;go_wp2;go_ret;exact ⟨rfl,FZ.out⟩
end Go.Proofs.YtpekidjfbinekaaGreatDoor
