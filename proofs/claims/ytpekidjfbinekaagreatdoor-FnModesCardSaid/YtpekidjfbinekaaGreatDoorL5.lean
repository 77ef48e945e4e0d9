/-   The law FnModes. -/
import Derived.Test.YtpekidjfbinekaaGreatDoorL4
import Derived.Test.YtpekidjfbinekaaGreatDoorA03
set_option maxRecDepth 100000
set_option maxHeartbeats 60000000
set_option linter.all false
namespace Go.Proofs.YtpekidjfbinekaaGreatDoor
open Go.RowKit Uni
theorem modes_fact {w:World}{da:Option Addr}{dl n:Nat}{ar:Nat->Nat}{D:zE}{x y:TyV}{s t:Tm}(h:LIn w da dl ar D n)(hx:TIn w dl ar n x s)(hy:TIn w dl ar n y t){m m':Uni.Mode}(hl:Looser m m'){o1 o2:Option St}
 (h1:RefFact D s t m o1) (h2:RefFact D s t m' o2) (ho:o1.isSome=true):o2.isSome=true:=by
 obtain ⟨⟨M,hM,hq⟩,hr⟩:=h1;obtain ⟨okk,a,b,ha,hb,hab⟩:=hq (s,t) (by simp);obtain ⟨s1,rfl⟩:=Option.isSome_iff_exists.mp ho;have fine:Fine D M dl ar 50 St.init s t:=⟨⟨a,b,by omega,ha,hb⟩,okk,Inv.init M,hx.fit,hy.fit,fun P t h=>by simp [St.init] at h⟩;have:=modes hM h.d.body 50 St.init s t m m' s1 (okO o2) hl fine hr h2.2 (by cases o2 <;>simp [okO])
 cases o2 with
 |none=>cases this
 |some s2=>rfl
theorem fnModes {da:Option Addr}{dl dc:Nat}(n:Int)(w:World)(h:ArgIn w da dl dc)(x y:TyV)(hx:Raw w x)(hy:Raw w y):
 Calls Tryz.prog 4 #[.slice da dl dc,.int .i64 n,x.val,y.val] w (YesB w):=by
 have HH:=hid h;have HX:=hid hx;have HY:=hid hy;clear h hx hy;unfold TyV.val;have FW:=hid (((Fr.refl F0 w).alloc (.cells #[.int .i64 x.k,.int .i64 x.n,.int .i64 x.c,.bool x.v,.slice x.a x.len x.cap,.string x.nm] 26)).alloc (.cells #[.int .i64 y.k,.int .i64 y.n,.int .i64 y.c,.bool y.v,.slice y.a y.len y.cap,.string y.nm] 26));by_cases hbig:(2147483647:Int) < dl
 ·go_enter Tryz.func4,Tryz.ntmps4
  go_wp2;go_ret;exact ⟨rfl,FW.out⟩
 have BIG:decide ((2147483647:Int) < dl)=false:=by simpa using hbig
 clear hbig;go_enter Tryz.func4,Tryz.ntmps4;go_wp2_with fail
 refine (fits_any x _ HX.out.small).mono ?_;rintro e w1 ⟨b1,rfl,hf1⟩;have F1:=hid (FW.out.trans hf1);have BX1:=hid (hf1.heap id (show ((w.alloc (.cells #[.int .i64 x.k,.int .i64 x.n,.int .i64 x.c,.bool x.v,.slice x.a x.len x.cap,.string x.nm] 26)).alloc (.cells #[.int .i64 y.k,.int .i64 y.n,.int .i64 y.c,.bool y.v,.slice y.a y.len y.cap,.string y.nm] 26)).heap[w.heap.size]?=_ from ((Fr.refl F0 _).alloc _).heap id (heap_alloc_new w _)))
 have BY1:=hid (hf1.heap id (zS w (.cells #[.int .i64 x.k,.int .i64 x.n,.int .i64 x.c,.bool x.v,.slice x.a x.len x.cap,.string x.nm] 26) (.cells #[.int .i64 y.k,.int .i64 y.n,.int .i64 y.c,.bool y.v,.slice y.a y.len y.cap,.string y.nm] 26)));clear hf1;cases b1
 ·go_wp2
  go_ret;exact ⟨rfl,F1.out⟩
 have y1:=zA BY1.out;have s1:=bl (y1 0);go_wp2_with fail
 refine (fits_any y _ HY.out.small).mono ?_;rintro e w2 ⟨b2,rfl,hf2⟩;have F2:=hid (F1.out.trans hf2);have BX2:=hid (hf2.heap id BX1.out);have BY2:=hid (hf2.heap id BY1.out);clear hf2 y1 s1;cases b2
 ·go_wp2
  go_ret;exact ⟨rfl,F2.out⟩
 have x2:=zA BX2.out;have y2:=zA BY2.out;have s2:=bl (x2 0);have t2:=bl (y2 0);obtain ⟨ps,hps⟩:=HH.out.d;have PS:=hid hps;clear hps;go_wp2_with fail
 have FA:=hid (F2.out.alloc (.cells (arr12 x y) 26));refine (valid_any da dl dc n (some ⟨w2.heap.size,0,none⟩) 2 2 ps [x,y] (w2.alloc (.cells (arr12 x y) 26)) (PS.out.keep FA.out) (rawL_two (heap_alloc_new w2 _) (HX.out.keep FA.out) (HY.out.keep FA.out))).mono ?_;rintro e w3 ⟨b3,rfl,hf3,hv⟩;have F3:=hid (FA.out.trans hf3);have BX3:=hid (hf3.heap id (((Fr.refl F0 w2).alloc _).heap id BX2.out));have BY3:=hid (hf3.heap id (((Fr.refl F0 w2).alloc _).heap id BY2.out))
 cases b3
 ·clear hf3 hv x2 y2 s2 t2
  go_wp2;go_ret;exact ⟨rfl,F3.out⟩
 obtain ⟨N,ar,D,s,t,rfl,hL,hS,hT⟩:=valid_two (hv rfl) (HH.out.tab.keep FA.out) hf3;have LI:=hid hL;have HS:=hid hS;have HT:=hid hT;clear hf3 hv x2 y2 s2 t2 hL hS hT;go_wp2;go_loopw [9,10,37] (fun _ _ i wr=> ∃j:Nat,j<=3/\i= .int .i64 j/\Fr F0 w3 wr/\ ∀m:Uni.Mode,zU m < j-> ∃o,RefFact D s t m o) (fun _ _ i _=>3 - (intOf i).toNat)
 case atStart=>exact ⟨0,by omega,rfl,Fr.refl _ _,fun m hm=>absurd hm (by cases m <;>decide)⟩
 case round=>
  obtain ⟨j,hj,rfl,hf,hfact⟩:=hrel;have HF:=hid hf;have FACT:=hid hfact;clear hf hfact;by_cases hlt:j < 3
  ·obtain ⟨m,hm⟩: ∃m:Uni.Mode,(j:Int)=zU m:=by
    match j,hlt with
    |0,_=>exact ⟨.exact,rfl⟩
    |1,_=>exact ⟨.assign,rfl⟩
    |2,_=>exact ⟨.loose,rfl⟩
   have hle:(j:Int) < 3:=by omega
   have RU:=hid (fun (w:World) (B:UB) (h:RefIn w da dl dc ar D N B x y s t)=>ref_unify LI.out.d.goodD LI.out.d.ok m h);rw [<-hm] at RU;have MM:=hid hm;clear hm;go_wp2_with fail
   refine (ref_new dc (LI.out.keep HF.out) (HS.out.keep HF.out) (HT.out.keep HF.out)).mono ?_;rintro e w4 ⟨B,rfl,hR,hf4,hM⟩;have F4:=hid (HF.out.trans hf4);have RI:=hid hR;have HM:=hid hM;have x4:=zA (F4.out.heap id BX3.out);have y4:=zA (F4.out.heap id BY3.out);have s4:=bl (x4 0);have t4:=bl (y4 0);clear hR hM;go_wp2_with fail
   refine (RU.out w4 B RI.out).mono ?_;rintro e w5 ⟨b,sil,rfl,hf5,hc,ho⟩;have F5:=hid (F4.out.transNew hf5 fun b hb=> .inr (Nat.le_trans HF.out.size (HM.out b hb).1));have szb:=World.block_lt_of_cell? _ _ hc;dsimp only at szb;have RO:=hid ho;clear hf4 hf5 ho x4 y4 s4 t4;cases sil
   ·go_wp2
    go_roundw
    case rel=>
     refine ⟨j + 1,by omega,by go_num,F5.out,fun m' hm'=> ?_⟩;by_cases e:zU m' < j
     ·exact FACT.out m' e
     ·obtain ⟨o,h1,_⟩:=RO.out rfl
      have e2:zU m'=zU m:=by have:=MM.out;omega
      obtain rfl:m'=m:=by revert e2;cases m' <;>cases m <;>simp [zU]
      exact ⟨o,h1⟩
    case measure=>simp [intOf];omega
   ·go_wp2
    go_ret;exact ⟨rfl,F3.out.trans F5.out⟩
  ·have hle: ¬(j:Int) < 3:=by omega
   obtain ⟨oe,he⟩:=FACT.out .exact (by simp [zU];omega);obtain ⟨oa,ha⟩:=FACT.out .assign (by simp [zU];omega);obtain ⟨ol,hl⟩:=FACT.out .loose (by simp [zU];omega);have A1:=modes_fact LI.out HS.out HT.out (.inl rfl) he ha;have A2:=modes_fact LI.out HS.out HT.out (.inr (.inl ⟨rfl,by simp⟩)) ha hl;have E1:=hid he;have E2:=hid ha;have E3:=hid hl;clear he ha hl;have x4:=zA (HF.out.heap id BX3.out);have y4:=zA (HF.out.heap id BY3.out)
   have s4:=bl (x4 0);have t4:=bl (y4 0);go_wp2_with fail
   refine (impl_unify dc (LI.out.keep HF.out) .exact (HS.out.keep HF.out) (HT.out.keep HF.out) E1.out).mono ?_;rintro e w5 ⟨a5,c5,ls5,z5,rfl,hf5,_,_,_,_⟩;have F5:=hid (HF.out.trans hf5);clear hf5 x4 y4 s4 t4;have x5:=zA (F5.out.heap id BX3.out);have y5:=zA (F5.out.heap id BY3.out);have s5:=bl (x5 0);have t5:=bl (y5 0);go_wp2_with fail
   refine (impl_unify dc (LI.out.keep F5.out) .assign (HS.out.keep F5.out) (HT.out.keep F5.out) E2.out).mono ?_;rintro e w6 ⟨a6,c6,ls6,z6,rfl,hf6,_,_,_,_⟩;have F6:=hid (F5.out.trans hf6);clear hf6 x5 y5 s5 t5;have x6:=zA (F6.out.heap id BX3.out);have y6:=zA (F6.out.heap id BY3.out);have s6:=bl (x6 0);have t6:=bl (y6 0);go_wp2_with fail
   refine (impl_unify dc (LI.out.keep F6.out) .loose (HS.out.keep F6.out) (HT.out.keep F6.out) E3.out).mono ?_;rintro e w7 ⟨a7,c7,ls7,z7,rfl,hf7,_,_,_,_⟩;have F7:=hid (F6.out.trans hf7);clear hf7 x6 y6 s6 t6
   have AB:=hid (show (oe.isSome=false∨oa.isSome=true)∧(oa.isSome=false∨ol.isSome=true) by
    cases h1:oe.isSome <;>cases h2:oa.isSome <;>cases h3:ol.isSome <;>simp_all)
   clear A1 A2;generalize oe.isSome=p at AB ⊢;generalize oa.isSome=q at AB ⊢;generalize ol.isSome=r at AB ⊢;have GO:=AB.out;clear AB
   cases p <;>cases q <;>cases r <;>first | (exfalso;revert GO;decide) | skip
   all_goals
    clear GO;go_wp2_with fail
    refine (works_any w7 (LI.out.tab.keep F7.out)).mono ?_;rintro e w8 ⟨rfl,hf8⟩;have F8:=hid (F3.out.trans (F7.out.trans hf8));clear hf8;go_wp2;go_ret;exact ⟨rfl,F8.out⟩
end Go.Proofs.YtpekidjfbinekaaGreatDoor
