/-   The law FnSolves. -/
import Derived.Test.YtpekidjfbinekaaGreatDoorL9S
import Derived.Test.YtpekidjfbinekaaGreatDoorA38
set_option maxRecDepth 100000
set_option maxHeartbeats 60000000
set_option linter.all false
namespace Go.Proofs.YtpekidjfbinekaaGreatDoor
open Go.RowKit Uni
theorem impl_exact {w:World}{da:Option Addr}{dl dc n:Nat}{ar:Nat->Nat}{D:zE}{x y:TyV}{s t:Tm}(h:LIn w da dl ar D n)(hx:TIn w dl ar n x s)(hy:TIn w dl ar n y t){o:Option St}(hf:RefFact D s t .exact o):
 Calls Tryz.prog 20 #[.slice da dl dc,.int .i64 n,x.val,y.val,.int .i64 (zU .exact)] w fun e w'=> ∃(a:Option Addr) (c:Nat) (ls:List (Bool × TyV)),e= .returned (.tuple #[.slice a n c,.bool o.isSome])∧Fr F0 w w'∧n≤c∧ls.length=n∧
  ∀s1,o=some s1->InfOf w' a ls ((List.range n).map fun p=>s1.v (s1.j p)):=by
 have hf':=hf;obtain ⟨⟨M,hM,hq⟩,hr⟩:=hf';obtain ⟨okk,a,b,ha,hb,hab⟩:=hq (s,t) (by simp);obtain ⟨hpok,hres⟩:=joint_one h.d.ok hM h.d.body hx.fit hy.fit okk ⟨a,b,ha,hb,hab⟩ .exact hr;have fine:Fine D M dl ar 50 St.init s t:=⟨⟨a,b,by omega,ha,hb⟩,okk,Inv.init M,hx.fit,hy.fit,fun P t h=>by simp [St.init] at h⟩;refine (unify20_any (dc:=dc) w h.din .exact x y s t hx hy hpok).mono ?_;rintro e w' ⟨a,c,ls,oks,s2,rfl,hfr,hp,hll,hinf,hc⟩
 have hR:=hres oks s2 hp
 cases o with
 |none=>
  refine ⟨a,c,ls,?_,hfr,hc,hll,fun s1 h=>by cases h⟩;rw [show okB oks ([(s,t)]:List (Tm × Tm)).length=false from hR.1 rfl];rfl
 |some s1=>
  obtain ⟨hb,hn⟩:=hR.2 s1 rfl;refine ⟨a,c,ls,?_,hfr,hc,hll,fun s1' e=> ?_⟩
  ·rw [show okB oks ([(s,t)]:List (Tm × Tm)).length=true from hb];rfl
  ·cases e
   cases hp with
   |fail=>cases hb
   |ok _ s3 _ _ _ _ os h1 h2=>
    cases h2
    have e1:=(sim h.d.ok hM h.d.body 50 50 St.init s t .exact (by simp) fine _ hr).1 _ h1;cases e1.get
    exact hinf
theorem occ_holes {n:Nat}{t:Tm}{p:Nat}(h:Occ t p)(hh:Holes 2 n t):p < n:=by
 induction h with
 |var p=>exact hh.var2
 |node f ts a p ha _ ih=>exact ih (hh.kid ha)
theorem holes_sub {n:Nat}{θ:Nat->Tm}(hθ: ∀p,p < n->Holes 2 n (θ p)){t:Tm}(h:Holes 2 n t):Holes 2 n (t.sub θ):=by
 induction h with
 |var p hp=>rw [Tm.sub_var];exact hθ p (hp rfl)
 |node f ts h1 _ ih=>
  rw [Tm.sub_node];refine .node f _ h1 fun t ht=> ?_
  obtain ⟨u,hu,rfl⟩:=List.mem_map.1 ht;exact ih u hu
theorem solve_fact {w:World}{da:Option Addr}{dl n:Nat}{ar:Nat->Nat}{D:zE}{x y:TyV}{s t:Tm}(h:LIn w da dl ar D n)(hx:TIn w dl ar n x s)(hy:TIn w dl ar n y t){s1:St}(hf:RefFact D s t .exact (some s1))(hlt: ∀p,p < n->s1.j p < n)
 (hv: ∀p u,p < n->s1.v p=some u->Holes 2 n u):iter s1 n s=iter s1 n t:=by
 obtain ⟨⟨M,hM,hq⟩,hr⟩:=hf;obtain ⟨okk,a,b,ha,hb,hab⟩:=hq (s,t) (by simp);have fine:Fine D M dl ar 50 St.init s t:=⟨⟨a,b,by omega,ha,hb⟩,okk,Inv.init M,hx.fit,hy.fit,fun P t h=>by simp [St.init] at h⟩;have hi:=(fine.post hM h.d.body hr).1;have hval: ∀p u,p < n->s1.v (s1.j p)=some u-> ∀q,Occ u q->q < n:=fun p u hp hu q hq=>occ_holes hq (hv (s1.j p) u (hlt p hp) hu)
 rw [rounds hi hlt hval ha (fun p hp=>occ_holes hp hx.h2),rounds hi hlt hval hb (fun p hp=>occ_holes hp hy.h2)];exact (sol hM h.d.body 50 St.init s t s1 fine hr _ (full_sol hi)).2
structure RndRel (w wr:World) (A B n:Nat) (s1:St) (s t:Tm) (j:Nat) (a b:TyV) (ta tb:Tm):Prop where
 f:Fr F0 w wr
 ba:wr.heap[A]?=some (.cells #[.int .i64 a.k,.int .i64 a.n,.int .i64 a.c,.bool a.v,.slice a.a a.len a.cap,.string a.nm] 26 (0,0))
 bb:wr.heap[B]?=some (.cells #[.int .i64 b.k,.int .i64 b.n,.int .i64 b.c,.bool b.v,.slice b.a b.len b.cap,.string b.nm] 26 (0,0))
 ra:RT wr (fun k=>k=A\/k=B) a ta
 rb:RT wr (fun k=>k=A\/k=B) b tb
 ha:Holes 2 n ta
 hb:Holes 2 n tb
 ia:iter s1 (n - j) ta=iter s1 n s
 ib:iter s1 (n - j) tb=iter s1 n t
theorem RndRel.next {w wr v2 v3 v4:World}{A B n:Nat}{s1:St}{s t:Tm}{j:Nat}{a b a2 b2:TyV}{ta tb:Tm}(h:RndRel w wr A B n s1 s t j a b ta tb)(hj:j < n)(hA:w.heap.size<=A)(hB:w.heap.size<=B)(g2:Fr F0 wr v2)(g3:Fr (fun k=>k=A) v2 v3)(g4:Fr (fun k=>k=B) v3 v4)
 (ba:v4.heap[A]?=some (.cells #[.int .i64 a2.k,.int .i64 a2.n,.int .i64 a2.c,.bool a2.v,.slice a2.a a2.len a2.cap,.string a2.nm] 26 (0,0))) (bb:v4.heap[B]?=some (.cells #[.int .i64 b2.k,.int .i64 b2.n,.int .i64 b2.c,.bool b2.v,.slice b2.a b2.len b2.cap,.string b2.nm] 26 (0,0))) (ra:RT v2 (fun k=>k=A\/k=B) a2 (ta.sub (tau s1))) (rb:RT v2 (fun k=>k=A\/k=B) b2 (tb.sub (tau s1)))
 (hs: ∀p,p < n->Holes 2 n (tau s1 p)):RndRel w v4 A B n s1 s t (j + 1) a2 b2 (ta.sub (tau s1)) (tb.sub (tau s1)):=by
 have g:Fr (fun k=>k=A\/k=B) v2 v4:=(g3.mono fun _ _ h=> .inl h).trans (g4.mono fun _ _ h=> .inr h);obtain ⟨k,hk⟩: ∃k,n - j=k + 1:=⟨n - j - 1,by omega⟩;have hk':n - (j + 1)=k:=by omega
 refine ⟨(h.f.trans g2).transNew g fun b hb=> .inr (by rcases hb with hb | hb <;>omega),ba,bb,ra.keep g,rb.keep g,holes_sub hs h.ha,holes_sub hs h.hb,?_,?_⟩
 ·rw [hk',<-h.ia,hk];rfl
 ·rw [hk',<-h.ib,hk];rfl
theorem RndRel.done {w wr:World}{A B n:Nat}{s1:St}{s t:Tm}{a b:TyV}{ta tb:Tm}(h:RndRel w wr A B n s1 s t n a b ta tb)(he:iter s1 n s=iter s1 n t):ta=tb:=by
 have h1:=h.ia;have h2:=h.ib;rw [Nat.sub_self] at h1 h2;exact h1.trans (he.trans h2.symm)
theorem fnSolves {da:Option Addr}{dl dc:Nat}(n:Int)(w:World)(h:ArgIn w da dl dc)(x y:TyV)(hx:Raw w x)(hy:Raw w y):
 Calls Tryz.prog 6 #[.slice da dl dc,.int .i64 n,x.val,y.val] w (YesB w):=by
 have HH:=hid h;have HX:=hid hx;have HY:=hid hy;clear h hx hy;unfold TyV.val;have FW:=hid (((Fr.refl F0 w).alloc (.cells #[.int .i64 x.k,.int .i64 x.n,.int .i64 x.c,.bool x.v,.slice x.a x.len x.cap,.string x.nm] 26)).alloc (.cells #[.int .i64 y.k,.int .i64 y.n,.int .i64 y.c,.bool y.v,.slice y.a y.len y.cap,.string y.nm] 26));by_cases hbig:(2147483647:Int) < dl
 ·go_enter Tryz.func6,Tryz.ntmps6
  go_wp2;go_ret;exact ⟨rfl,FW.out⟩
 have BIG:decide ((2147483647:Int) < dl)=false:=by simpa using hbig
 clear hbig;go_enter Tryz.func6,Tryz.ntmps6;go_wp2_with fail
 refine (fits_any x _ HX.out.small).mono ?_;rintro e w1 ⟨b1,rfl,hf1⟩;have F1:=hid (FW.out.trans hf1);have BX1:=hid (hf1.heap id (show ((w.alloc (.cells #[.int .i64 x.k,.int .i64 x.n,.int .i64 x.c,.bool x.v,.slice x.a x.len x.cap,.string x.nm] 26)).alloc (.cells #[.int .i64 y.k,.int .i64 y.n,.int .i64 y.c,.bool y.v,.slice y.a y.len y.cap,.string y.nm] 26)).heap[w.heap.size]?=_ from ((Fr.refl F0 _).alloc _).heap id (heap_alloc_new w _)))
 have BY1:=hid (hf1.heap id (zS w (.cells #[.int .i64 x.k,.int .i64 x.n,.int .i64 x.c,.bool x.v,.slice x.a x.len x.cap,.string x.nm] 26) (.cells #[.int .i64 y.k,.int .i64 y.n,.int .i64 y.c,.bool y.v,.slice y.a y.len y.cap,.string y.nm] 26)));clear hf1;cases b1
 ·go_wp2
  go_ret;exact ⟨rfl,F1.out⟩
 have y1:=zA BY1.out;have s1:=bl (y1 0);go_wp2_with fail
 refine (fits_any y _ HY.out.small).mono ?_;rintro e w2 ⟨b2,rfl,hf2⟩;have F2:=hid (F1.out.trans hf2);have BX2:=hid (hf2.heap id BX1.out);have BY2:=hid (hf2.heap id BY1.out);clear hf2 y1 s1;cases b2
 ·go_wp2
  go_ret;exact ⟨rfl,F2.out⟩
 have x2:=zA BX2.out;have y2:=zA BY2.out;have s2:=bl (x2 0);have t2:=bl (y2 0);obtain ⟨ps,hps⟩:=HH.out.d;have PS:=hid hps;clear hps;go_wp2_with fail
 have FA:=hid (F2.out.alloc (.cells (arr12 x y) 26));refine (valid_any da dl dc n (some ⟨w2.heap.size,0,none⟩) 2 2 ps [x,y] (w2.alloc (.cells (arr12 x y) 26)) (PS.out.keep FA.out) (rawL_two (heap_alloc_new w2 _) (HX.out.keep FA.out) (HY.out.keep FA.out))).mono ?_;rintro e w3 ⟨b3,rfl,hf3,hv⟩;have F3:=hid (FA.out.trans hf3);have BX3:=hid (hf3.heap id (((Fr.refl F0 w2).alloc _).heap id BX2.out));have BY3:=hid (hf3.heap id (((Fr.refl F0 w2).alloc _).heap id BY2.out))
 cases b3
 ·clear hf3 hv x2 y2 s2 t2
  go_wp2;go_ret;exact ⟨rfl,F3.out⟩
 obtain ⟨N,ar,D,s,t,rfl,hL,hS,hT⟩:=valid_two (hv rfl) (HH.out.tab.keep FA.out) hf3;have LI:=hid hL;have HS:=hid hS;have HT:=hid hT;clear hf3 hv x2 y2 s2 t2 hL hS hT;go_wp2_with fail
 refine (ref_new dc LI.out HS.out HT.out).mono ?_;rintro e w4 ⟨B,rfl,hR,hf4,hM⟩;have F4:=hid hf4;have RI:=hid hR;have HM:=hid hM;clear hR hf4 hM;have x4:=zA (F4.out.heap id BX3.out);have y4:=zA (F4.out.heap id BY3.out);have s4:=bl (x4 0);have t4:=bl (y4 0);go_wp2_with fail
 refine (ref_unify LI.out.d.goodD LI.out.d.ok .exact RI.out).mono ?_;rintro e w5 ⟨b5,sil,rfl,hf5,hc,ho⟩;have F5:=hid (F4.out.transNew hf5 fun b hb=> .inr (HM.out b hb).1);have szb:=World.block_lt_of_cell? _ _ hc;dsimp only at szb;have RO:=hid ho;clear hf5 ho x4 y4 s4 t4;cases sil
 case true=>
  go_wp2_with fail
  refine (works_any w5 (LI.out.tab.keep (F5.out))).mono ?_;rintro e wz ⟨rfl,hfz⟩;have FZ:=hid (F3.out.trans ((F5.out).trans hfz));clear hfz;go_wp2;go_ret;exact ⟨rfl,FZ.out⟩
 obtain ⟨o,hfact,_,hout⟩:=RO.out rfl;have FACT:=hid hfact;have OUT:=hid hout;clear hfact hout;have x5:=zA (F5.out.heap id BX3.out);have y5:=zA (F5.out.heap id BY3.out);have s5:=bl (x5 0);have t5:=bl (y5 0);go_wp2_with fail
 refine (impl_exact (dc:=dc) (LI.out.keep F5.out) (HS.out.keep F5.out) (HT.out.keep F5.out) FACT.out).mono ?_;rintro e w6 ⟨la,lc,ls,rfl,hf6,hlc,hll,hinf⟩;have F6:=hid (F5.out.trans hf6);have H56:=hid hf6;have LL:=hid hll;clear x5 y5 s5 t5 hc szb
 cases o with
 |none=>
  clear hf6 hll hinf;go_wp2_with fail
  refine (works_any w6 (LI.out.tab.keep (F6.out))).mono ?_;rintro e wz ⟨rfl,hfz⟩;have FZ:=hid (F3.out.trans ((F6.out).trans hfz));clear hfz;go_wp2;go_ret;exact ⟨rfl,FZ.out⟩
 |some s1=>
  obtain ⟨B',pv,hBu,hE,hBM⟩:=OUT.out s1 rfl;have INF:=hid (hinf s1 rfl);have UU:=hid hE.U;have BM:=hid hE.M
  have ST:=hid (show ∀p,p < N→Holes 2 N (tau s1 p) from fun p hp=>by
   unfold tau
   cases hv:s1.v (s1.j p) with
   |none=>exact .var _ (fun _=>hE.U.lt p hp)
   |some u=>exact hE.U.holes _ u (hE.U.lt p hp) hv)
  have SOL:=hid (solve_fact LI.out HS.out HT.out FACT.out hE.U.lt (fun p u hp hu=>hE.U.holes p u hp hu));rw [<-hBu];have hn8:=LI.out.n8;clear hf6 hll hinf hE hBM hBu;have BX6:=hid (F6.out.heap id BX3.out);have BY6:=hid (F6.out.heap id BY3.out);go_wp2_with fail
  refine wp_region_planT (Fr F0 w6) (.fl 0 (.fl 1 (.fk 2 3 (.st 3 (.st 4 (.st 5 .nil))) (.st 2 (.st 4 (.st 5 .nil)))))) [] yE (by kernel_rfl) (by kernel_rfl) (by kernel_rfl) (by decide) ?_
  iterate 2
   (refine planT_float _ rfl (Fr.refl _ _).drew (fun w' hS=>by
    have q0:=zA (hS.heap id BX6.out);have s0:=zF (hS.heap id BX6.out);have q1:=zA (hS.heap id BY6.out);have s1:=zF (hS.heap id BY6.out);clear hS;go_simp;rfl) ?_)
  go_simp;refine planT_fork rfl rfl ?_ ?_
  ·go_wp2
   refine And.intro (fun _=>((Fr.refl F0 w6).drew).alloc _) ?_;refine planT_step rfl ?_;go_wp2;refine And.intro (fun _=>(((Fr.refl F0 w6).drew).alloc _).alloc _) ?_;refine planT_step rfl ?_;have ZL:=hid (show ((w6.drew.alloc (.cells #[.int .i64 0,.int .i64 0,.int .i64 0,.bool false,.slice none 0 0,.string ⟨#[]⟩] 26)).alloc (.cells #[.int .i64 0,.int .i64 0,.int .i64 0,.bool false,.slice none 0 0,.string ⟨#[]⟩] 26)).heap[w6.heap.size]?=_ from ((Fr.refl F0 _).alloc _).heap id (heap_alloc_new w6.drew _))
   have ZH:=hid (show ((w6.drew.alloc (.cells #[.int .i64 0,.int .i64 0,.int .i64 0,.bool false,.slice none 0 0,.string ⟨#[]⟩] 26)).alloc (.cells #[.int .i64 0,.int .i64 0,.int .i64 0,.bool false,.slice none 0 0,.string ⟨#[]⟩] 26)).heap[w6.heap.size + 1]?=_ from zS w6.drew _ _);go_wp2_with (refine zR rfl _ _ rfl rfl (w6.heap.size) x rfl rfl ZL.out ?_)
   intro W7 hA7 hf7;have F7:=hid (((((Fr.refl F0 w6).drew.alloc _).alloc _)).transNew hf7 fun b hb=> .inr (by subst hb;omega));have A7:=hid hA7;have B7:=hid (hf7.heap (b:=w6.heap.size + 1) (by omega) ZH.out);clear hA7 hf7;go_wp2;refine And.intro (fun _=>F7.out) ?_;refine planT_step rfl ?_;go_wp2_with (refine zR rfl _ _ rfl rfl (w6.heap.size + 1) y rfl rfl B7.out ?_)
   intro W8 hB8 hf8;have F8:=hid (F7.out.transNew hf8 fun b hb=> .inr (by subst hb;omega));have B8:=hid hB8;have A8:=hid (hf8.heap (b:=w6.heap.size) (by omega) A7.out);clear hB8 hf8;go_wp2;refine And.intro (fun _=>F8.out) ?_;refine planT_nil (NoPanic.normal ?_);go_wp2;go_loopw [60] (fun i wr=> ∃(j:Nat) (a b:TyV) (ta tb:Tm),j<=N/\i= .int .i64 j/\RndRel w6 wr (w6.heap.size) (w6.heap.size + 1) N s1 s t j a b ta tb) (fun i _=>N - (intOf i).toNat)
   case atStart=>
    have hm: ∀b,(b=w6.heap.size\/b=w6.heap.size + 1)->F0 b\/w6.heap.size<=b:=fun b hb=> .inr (by rcases hb with hb | hb <;>omega)
    exact ⟨0,x,y,s,t,Nat.zero_le _,rfl,F8.out,A8.out,B8.out,((HS.out.r.keep F6.out).avoid hm).keep F8.out.sub,((HT.out.r.keep F6.out).avoid hm).keep F8.out.sub,HS.out.h2,HT.out.h2,rfl,rfl⟩
   case round=>
    obtain ⟨j,a,b,ta,tb,hj,rfl,hrr⟩:=hrel;have RR:=hid hrr;clear hrr;have qa:=zA RR.out.ba;have qb:=zA RR.out.bb;have za:=bl (qa 0);have zb:=bl (qb 0);by_cases hlt:j < N
    ·have hle:(j:Int) < N:=by omega
     have SO:=hid (fun (w':World) (f':Fr F0 wr w') (c:TyV) (tc:Tm) (hc:RT w' (fun k=>k=w6.heap.size\/k=w6.heap.size + 1) c tc) (hh:Holes 2 N tc)=>solved_any (fun k=>k=w6.heap.size\/k=w6.heap.size + 1) UU.out BM.out w' H56.out (RR.out.f.trans f') (fun k hk=>by have h1:=f'.size;rcases hk with hk | hk <;>subst hk <;>dsimp only at za zb <;>omega) la lc ls LL.out INF.out c tc hc hh);unfold TyV.val at SO;have BA:=hid RR.out.ba;have BB:=hid RR.out.bb
     clear qa qb za zb;go_wp2_with fail
     refine zG (Fr (fun k=>k=w6.heap.size) wr) [(0,true),(1,true),(4,true),(5,true),(6,true),(2,false),(3,false),(7,false),(8,false),(9,false)] [9] yE (by kernel_rfl) (by kernel_rfl) (by kernel_rfl) (by decide) ?_
     iterate 5
      (refine zH _ rfl (Fr.refl _ _).drew (fun w' hS=>by
       have qb:=zA (hS.heap (b:=w6.heap.size + 1) (by omega) BB.out);have zb:=bl (qb 0);dsimp only at zb;clear hS;go_simp;rfl) ?_)
     go_simp;have qa:=zA ((Fr.refl F0 wr).drew.heap id BA.out);have za:=bl (qa 0);dsimp only at za;refine zB rfl ?_;go_wp2;refine And.intro (fun _=>(Fr.refl _ _).drew) ?_;clear qa za;refine zB rfl ?_;go_wp2_with fail
     refine (SO.out _ (Fr.refl F0 wr).drew a ta (RR.out.ra.keep (Fr.refl _ wr).drew) RR.out.ha).mono ?_;rintro e v1 ⟨a2,rfl,hr1,hg1⟩;have R1:=hid hr1;have G1:=hid ((Fr.refl F0 wr).drew.trans hg1);clear hr1 hg1;go_wp2;refine And.intro (fun _=>G1.out.sub) ?_;refine zB rfl ?_;go_wp2_with fail
     refine (SO.out _ G1.out b tb (RR.out.rb.keep G1.out.sub) RR.out.hb).mono ?_;rintro e v2 ⟨b2,rfl,hr2,hg2⟩;have R2:=hid hr2;have G2:=hid (G1.out.trans hg2);have R12:=hid (R1.out.keep hg2.sub);clear hr2 hg2;go_wp2;refine And.intro (fun _=>G2.out.sub) ?_;refine zB rfl ?_;go_wp2_with (refine zR rfl _ _ rfl rfl (w6.heap.size) a2 rfl rfl (G2.out.heap id BA.out) ?_)
     intro v3 hA3 hg3;have G3:=hid (show Fr (fun k=>k=w6.heap.size) wr v3 from G2.out.sub.trans hg3);have A3:=hid hA3;have H3:=hid hg3;clear hA3 hg3;go_wp2;refine And.intro (fun _=>G3.out) ?_;refine zB rfl ?_;go_wp2_with (refine zR rfl _ _ rfl rfl (w6.heap.size + 1) b2 rfl rfl (G3.out.heap (b:=w6.heap.size + 1) (by omega) BB.out) ?_)
     intro v4 hB4 hg4;have B4:=hid hB4;have A4:=hid (hg4.heap (b:=w6.heap.size) (by omega) A3.out);have H4:=hid hg4;have NX:=hid (RR.out.next hlt (by omega) (by omega) G2.out H3.out H4.out A4.out B4.out R12.out R2.out (fun p hp=>ST.out p hp));clear hB4 hg4;go_wp2;refine And.intro (fun h=>absurd h (by decide)) ?_;refine zO (NoPanic.normal ?_);go_wp2;go_roundw
     case rel=>exact ⟨j + 1,a2,b2,_,_,by omega,by go_num,NX.out⟩
     case measure=>simp [intOf];omega
    ·have hjn:j=N:=by omega
     have hle: ¬(j:Int) < N:=by omega
     subst hjn;have EQ:=hid (RR.out.done SOL.out);have RA:=hid RR.out.ra;have RB:=hid RR.out.rb;have hself:((j:Int)==(j:Int))=true:=by simp
     go_wp2_with fail
     refine (wK ta tb a b wr _ RA.out RB.out).mono ?_;rintro e v1 ⟨rfl,hg1⟩;rw [show same ta tb=true by simp [same,EQ.out]];have F9:=hid (F6.out.trans (RR.out.f.trans hg1));clear hg1;go_wp2_with fail
     refine (works_any v1 (LI.out.tab.keep F9.out)).mono ?_;rintro e wz ⟨rfl,hfz⟩;have FZ:=hid (F3.out.trans (F9.out.trans hfz));clear hfz;go_wp2;go_ret;exact ⟨rfl,FZ.out⟩
  ·go_wp2
   refine And.intro (fun _=>((Fr.refl F0 w6).drew).alloc _) ?_;refine planT_step rfl ?_;go_wp2;refine And.intro (fun _=>(((Fr.refl F0 w6).drew).alloc _).alloc _) ?_;refine planT_step rfl ?_;have ZL:=hid (show ((w6.drew.alloc (.cells #[.int .i64 0,.int .i64 0,.int .i64 0,.bool false,.slice none 0 0,.string ⟨#[]⟩] 26)).alloc (.cells #[.int .i64 0,.int .i64 0,.int .i64 0,.bool false,.slice none 0 0,.string ⟨#[]⟩] 26)).heap[w6.heap.size]?=_ from ((Fr.refl F0 _).alloc _).heap id (heap_alloc_new w6.drew _))
   have ZH:=hid (show ((w6.drew.alloc (.cells #[.int .i64 0,.int .i64 0,.int .i64 0,.bool false,.slice none 0 0,.string ⟨#[]⟩] 26)).alloc (.cells #[.int .i64 0,.int .i64 0,.int .i64 0,.bool false,.slice none 0 0,.string ⟨#[]⟩] 26)).heap[w6.heap.size + 1]?=_ from zS w6.drew _ _);go_wp2_with (refine zR rfl _ _ rfl rfl (w6.heap.size + 1) x rfl rfl ZH.out ?_)
   intro W7 hA7 hf7;have F7:=hid (((((Fr.refl F0 w6).drew.alloc _).alloc _)).transNew hf7 fun b hb=> .inr (by subst hb;omega));have A7:=hid hA7;have B7:=hid (hf7.heap (b:=w6.heap.size) (by omega) ZL.out);clear hA7 hf7;go_wp2;refine And.intro (fun _=>F7.out) ?_;refine planT_step rfl ?_;go_wp2_with (refine zR rfl _ _ rfl rfl (w6.heap.size) y rfl rfl B7.out ?_)
   intro W8 hB8 hf8;have F8:=hid (F7.out.transNew hf8 fun b hb=> .inr (by subst hb;omega));have B8:=hid hB8;have A8:=hid (hf8.heap (b:=w6.heap.size + 1) (by omega) A7.out);clear hB8 hf8;go_wp2;refine And.intro (fun _=>F8.out) ?_;refine planT_nil (NoPanic.normal ?_);go_wp2;go_loopw [60] (fun i wr=> ∃(j:Nat) (a b:TyV) (ta tb:Tm),j<=N/\i= .int .i64 j/\RndRel w6 wr (w6.heap.size + 1) (w6.heap.size) N s1 s t j a b ta tb) (fun i _=>N - (intOf i).toNat)
   case atStart=>
    have hm: ∀b,(b=w6.heap.size + 1\/b=w6.heap.size)->F0 b\/w6.heap.size<=b:=fun b hb=> .inr (by rcases hb with hb | hb <;>omega)
    exact ⟨0,x,y,s,t,Nat.zero_le _,rfl,F8.out,A8.out,B8.out,((HS.out.r.keep F6.out).avoid hm).keep F8.out.sub,((HT.out.r.keep F6.out).avoid hm).keep F8.out.sub,HS.out.h2,HT.out.h2,rfl,rfl⟩
   case round=>
    obtain ⟨j,a,b,ta,tb,hj,rfl,hrr⟩:=hrel;have RR:=hid hrr;clear hrr;have qa:=zA RR.out.ba;have qb:=zA RR.out.bb;have za:=bl (qa 0);have zb:=bl (qb 0);by_cases hlt:j < N
    ·have hle:(j:Int) < N:=by omega
     have SO:=hid (fun (w':World) (f':Fr F0 wr w') (c:TyV) (tc:Tm) (hc:RT w' (fun k=>k=w6.heap.size + 1\/k=w6.heap.size) c tc) (hh:Holes 2 N tc)=>solved_any (fun k=>k=w6.heap.size + 1\/k=w6.heap.size) UU.out BM.out w' H56.out (RR.out.f.trans f') (fun k hk=>by have h1:=f'.size;rcases hk with hk | hk <;>subst hk <;>dsimp only at za zb <;>omega) la lc ls LL.out INF.out c tc hc hh);unfold TyV.val at SO;have BA:=hid RR.out.ba;have BB:=hid RR.out.bb
     clear qa qb za zb;go_wp2_with fail
     refine zG (Fr (fun k=>k=w6.heap.size + 1) wr) [(0,true),(1,true),(4,true),(5,true),(6,true),(2,false),(3,false),(7,false),(8,false),(9,false)] [9] yE (by kernel_rfl) (by kernel_rfl) (by kernel_rfl) (by decide) ?_
     iterate 5
      (refine zH _ rfl (Fr.refl _ _).drew (fun w' hS=>by
       have qb:=zA (hS.heap (b:=w6.heap.size) (by omega) BB.out);have zb:=bl (qb 0);dsimp only at zb;clear hS;go_simp;rfl) ?_)
     go_simp;have qa:=zA ((Fr.refl F0 wr).drew.heap id BA.out);have za:=bl (qa 0);dsimp only at za;refine zB rfl ?_;go_wp2;refine And.intro (fun _=>(Fr.refl _ _).drew) ?_;clear qa za;refine zB rfl ?_;go_wp2_with fail
     refine (SO.out _ (Fr.refl F0 wr).drew a ta (RR.out.ra.keep (Fr.refl _ wr).drew) RR.out.ha).mono ?_;rintro e v1 ⟨a2,rfl,hr1,hg1⟩;have R1:=hid hr1;have G1:=hid ((Fr.refl F0 wr).drew.trans hg1);clear hr1 hg1;go_wp2;refine And.intro (fun _=>G1.out.sub) ?_;refine zB rfl ?_;go_wp2_with fail
     refine (SO.out _ G1.out b tb (RR.out.rb.keep G1.out.sub) RR.out.hb).mono ?_;rintro e v2 ⟨b2,rfl,hr2,hg2⟩;have R2:=hid hr2;have G2:=hid (G1.out.trans hg2);have R12:=hid (R1.out.keep hg2.sub);clear hr2 hg2;go_wp2;refine And.intro (fun _=>G2.out.sub) ?_;refine zB rfl ?_;go_wp2_with (refine zR rfl _ _ rfl rfl (w6.heap.size + 1) a2 rfl rfl (G2.out.heap id BA.out) ?_)
     intro v3 hA3 hg3;have G3:=hid (show Fr (fun k=>k=w6.heap.size + 1) wr v3 from G2.out.sub.trans hg3);have A3:=hid hA3;have H3:=hid hg3;clear hA3 hg3;go_wp2;refine And.intro (fun _=>G3.out) ?_;refine zB rfl ?_;go_wp2_with (refine zR rfl _ _ rfl rfl (w6.heap.size) b2 rfl rfl (G3.out.heap (b:=w6.heap.size) (by omega) BB.out) ?_)
     intro v4 hB4 hg4;have B4:=hid hB4;have A4:=hid (hg4.heap (b:=w6.heap.size + 1) (by omega) A3.out);have H4:=hid hg4;have NX:=hid (RR.out.next hlt (by omega) (by omega) G2.out H3.out H4.out A4.out B4.out R12.out R2.out (fun p hp=>ST.out p hp));clear hB4 hg4;go_wp2;refine And.intro (fun h=>absurd h (by decide)) ?_;refine zO (NoPanic.normal ?_);go_wp2;go_roundw
     case rel=>exact ⟨j + 1,a2,b2,_,_,by omega,by go_num,NX.out⟩
     case measure=>simp [intOf];omega
    ·have hjn:j=N:=by omega
     have hle: ¬(j:Int) < N:=by omega
     subst hjn;have EQ:=hid (RR.out.done SOL.out);have RA:=hid RR.out.ra;have RB:=hid RR.out.rb;have hself:((j:Int)==(j:Int))=true:=by simp
     go_wp2_with fail
     refine (wK ta tb a b wr _ RA.out RB.out).mono ?_;rintro e v1 ⟨rfl,hg1⟩;rw [show same ta tb=true by simp [same,EQ.out]];have F9:=hid (F6.out.trans (RR.out.f.trans hg1));clear hg1;go_wp2_with fail
     refine (works_any v1 (LI.out.tab.keep F9.out)).mono ?_;rintro e wz ⟨rfl,hfz⟩;have FZ:=hid (F3.out.trans (F9.out.trans hfz));clear hfz;go_wp2;go_ret;exact ⟨rfl,FZ.out⟩
end Go.Proofs.YtpekidjfbinekaaGreatDoor
