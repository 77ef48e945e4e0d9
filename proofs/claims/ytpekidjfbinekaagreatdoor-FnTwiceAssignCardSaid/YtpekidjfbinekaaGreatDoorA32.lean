/- W22, W24, R2 -/
import Derived.Test.YtpekidjfbinekaaGreatDoorA31
set_option maxRecDepth 100000
set_option maxHeartbeats 60000000
set_option linter.all false
namespace Go.Proofs.YtpekidjfbinekaaGreatDoor
open Go.RowKit Uni
section
variable {da:Option Addr}{dl dc:Nat}{D:zE}{ar:Nat->Nat}
theorem merge_literal:
 (∀(hD:xF dl ar D) (F:Nat) (ih:MStep da dl dc D ar F) (f g:Lab) (ts us:List Tm) (x y:TyV) (w:World) (B:MB) (n:Nat) (M:Mg) (fuel:Int) (hF:fuel≤F + 1) (hF2:F + 1≤20000) (hf2:2≤fuel) (hM:MRep ar dl w B n M fuel (.slice da dl dc)) (hd:DRep w B.M da dl D ar) (hx:YIn ar dl w B n x (.node f ts)) (hy:YIn ar dl w B n y (.node g us)) (hf4:4≤f.kind) (hg:g.kind=1),
  Calls Tryz.prog 47 #[.pointer (some ⟨B.m,0,none⟩),x.val,y.val] w (MPost ar dl D B n (.slice da dl dc) w M fuel (.node f ts) (.node g us)))/\
 (∀(hD:xF dl ar D) (F:Nat) (ih:MStep da dl dc D ar F) (f g:Lab) (ts us:List Tm) (x y:TyV) (w:World) (B:MB) (n:Nat) (M:Mg) (fuel:Int) (hF:fuel≤F + 1) (hF2:F + 1≤20000) (hf2:2≤fuel) (hM:MRep ar dl w B n M fuel (.slice da dl dc)) (hd:DRep w B.M da dl D ar) (hx:YIn ar dl w B n x (.node f ts)) (hy:YIn ar dl w B n y (.node g us)) (hf:f.kind=1) (hg4:4≤g.kind),
  Calls Tryz.prog 47 #[.pointer (some ⟨B.m,0,none⟩),x.val,y.val] w (MPost ar dl D B n (.slice da dl dc) w M fuel (.node f ts) (.node g us))):=by
 refine ⟨@fun hD F ih f g ts us x y w B n M fuel hF hF2 hf2 hM hd hx hy hf4 hg=>have tg:Fin 1:=0;?_,@fun hD F ih f g ts us x y w B n M fuel hF hF2 hf2 hM hd hx hy hf hg4=>have tg:Fin 2:=0;?_⟩
 all_goals
  have NM:=hid (fun b (h:w.heap.size<=b) (hb:B.M b)=>(Nat.not_lt.2 h (hM.below b hb):False));obtain ⟨xs,fx,nx,rx,sx⟩:=hx.r.flat;obtain ⟨ys,fy,ny,ry,sy⟩:=hy.r.flat;have sx:Shape x f xs:=sx;have sy:Shape y g ys:=sy;have kx:x.k=f.kind:=sx.k;have ky:y.k=g.kind:=sy.k;have x2:(x.k==2)=false:=by have:=sx.k2;simp;omega
  have y2:(y.k==2)=false:=by have:=sy.k2;simp;omega
  first
  |rename Fin 1=>tg
   have x1:(x.k==1)=false:=by rw [kx];simp;omega
   have y1:y.k=1:=by rw [ky,hg];rfl
   have hk1:=hy.g.lab.k1 hg;have UN:=hid (fun (w':World) (f':Fr B.M w w')=>xG da dl dc D ar y g us w' B.M (hd.keep f') (hy.keep f').r hg hk1.1 hk1.2 (fun b hb=>Nat.lt_of_lt_of_le (hM.below b hb) f'.size));have XU:=hid (fun (w1 w2:World) (rr:TyV) (h:RT w1 B.M rr (Uni.und D (.node g us))) (f':Fr F0 w1 w2)=>(⟨h.keep f'.sub,hy.g.und hD,by rw [und_own hg];exact holes_own hk1.2 (fun t ht=>hy.h.kid ht) (hd.noVar g.n hk1.1) (hd.own g.n hk1.1)⟩:YIn ar dl w2 B n rr (Uni.und D (.node g us))))
   have LI:=hid (fun (w':World)=>yG x true w' (by rw [kx];simp;omega))
  |have x1:x.k=1:=by rw [kx,hf];rfl
   have y1:(y.k==1)=false:=by rw [ky];simp;omega
   have hk1:=hx.g.lab.k1 hf;have UN:=hid (fun (w':World) (f':Fr B.M w w')=>xG da dl dc D ar x f ts w' B.M (hd.keep f') (hx.keep f').r hf hk1.1 hk1.2 (fun b hb=>Nat.lt_of_lt_of_le (hM.below b hb) f'.size));have XU:=hid (fun (w1 w2:World) (rr:TyV) (h:RT w1 B.M rr (Uni.und D (.node f ts))) (f':Fr F0 w1 w2)=>(⟨h.keep f'.sub,hx.g.und hD,by rw [und_own hf];exact holes_own hk1.2 (fun t ht=>hx.h.kid ht) (hd.noVar f.n hk1.1) (hd.own f.n hk1.1)⟩:YIn ar dl w2 B n rr (Uni.und D (.node f ts))))
   have LI:=hid (fun (w':World)=>yG y true w' (by rw [ky];simp;omega))
  clear hk1;obtain ⟨ca,cc,va,vc,hu,_⟩:=hM.m;have szm:=hM.sz.1;have qm:=zA hu;have fm:=zC hu;have XE:=hid fx.elems;have YE:=hid fy.elems;have LX:=hid fx.len;have LY:=hid fy.len;have LT:=hid (show ts.length=x.len by rw [<-fx.len];exact nx);have LU:=hid (show us.length=y.len by rw [<-fy.len];exact ny);have RX:=hid (fun i z t hz ht=>(⟨rx i z t hz ht,hx.g.kid (List.mem_of_getElem? ht),hx.h.kid (List.mem_of_getElem? ht)⟩:YIn ar dl w B n z t))
  have RY:=hid (fun i z t hz ht=>(⟨ry i z t hz ht,hy.g.kid (List.mem_of_getElem? ht),hy.h.kid (List.mem_of_getElem? ht)⟩:YIn ar dl w B n z t));have hbx:=fx.bound.2.1;have hby:=fy.bound.2.1;clear fx nx rx sx fy ny ry sy;have HM:=hid hM;have HD:=hid hd;have HX:=hid hx;have HY:=hid hy;have IH:=hid ih;clear hM hd hx hy ih hu kx ky;obtain ⟨xk,xn,xc,xv,xa,xlen,xcap,xnm⟩:=x;obtain ⟨yk,yn,yc,yv,ya,ylen,ycap,ynm⟩:=y
  unfold TyV.val at *;dsimp only at *
  first
  |rename Fin 1=>tg
   subst y1
  |subst x1
  have hle0: ¬(fuel - 1<=0):=by omega
  have hfu:fuel<=20000:=by omega
  have SC:=hid (show (w.setCell ⟨B.m,3,none⟩ (.int .i64 (fuel - 1))).heap.size=w.heap.size by simp [World.setCell])
  first
  |rename Fin 1=>tg
   have HM0:=hid ((HM.out.setFuel (fuel - 1) (by omega) (by omega)).keep (((Fr.refl F0 _).alloc (.cells #[.int .i64 xk,.int .i64 xn,.int .i64 xc,.bool xv,.slice xa xlen xcap,.string xnm] 26)).alloc (.cells #[.int .i64 1,.int .i64 yn,.int .i64 yc,.bool yv,.slice ya ylen ycap,.string ynm] 26)));have FX:=hid ((((Fr.refl B.M w).setCell (p:=⟨B.m,3,none⟩) (.inl (.inl rfl)) (.int .i64 (fuel - 1))).alloc (.cells #[.int .i64 xk,.int .i64 xn,.int .i64 xc,.bool xv,.slice xa xlen xcap,.string xnm] 26)).alloc (.cells #[.int .i64 1,.int .i64 yn,.int .i64 yc,.bool yv,.slice ya ylen ycap,.string ynm] 26))
   have BX:=hid (show (((w.setCell ⟨B.m,3,none⟩ (.int .i64 (fuel - 1))).alloc (.cells #[.int .i64 xk,.int .i64 xn,.int .i64 xc,.bool xv,.slice xa xlen xcap,.string xnm] 26)).alloc (.cells #[.int .i64 1,.int .i64 yn,.int .i64 yc,.bool yv,.slice ya ylen ycap,.string ynm] 26)).heap[w.heap.size]?=some (.cells #[.int .i64 xk,.int .i64 xn,.int .i64 xc,.bool xv,.slice xa xlen xcap,.string xnm] 26 (0,0)) from (Below.heap_alloc _ _ _ (by simp [World.setCell])).trans (by have h:=heap_alloc_new (w.setCell ⟨B.m,3,none⟩ (.int .i64 (fuel - 1))) (.cells #[.int .i64 xk,.int .i64 xn,.int .i64 xc,.bool xv,.slice xa xlen xcap,.string xnm] 26);rw [SC.out] at h;exact h))
   have BY:=hid (show (((w.setCell ⟨B.m,3,none⟩ (.int .i64 (fuel - 1))).alloc (.cells #[.int .i64 xk,.int .i64 xn,.int .i64 xc,.bool xv,.slice xa xlen xcap,.string xnm] 26)).alloc (.cells #[.int .i64 1,.int .i64 yn,.int .i64 yc,.bool yv,.slice ya ylen ycap,.string ynm] 26)).heap[w.heap.size + 1]?=some (.cells #[.int .i64 1,.int .i64 yn,.int .i64 yc,.bool yv,.slice ya ylen ycap,.string ynm] 26 (0,0)) by have h:=zS (w.setCell ⟨B.m,3,none⟩ (.int .i64 (fuel - 1))) (.cells #[.int .i64 xk,.int .i64 xn,.int .i64 xc,.bool xv,.slice xa xlen xcap,.string xnm] 26) (.cells #[.int .i64 1,.int .i64 yn,.int .i64 yc,.bool yv,.slice ya ylen ycap,.string ynm] 26);rw [SC.out] at h;exact h)
  |have HM0:=hid ((HM.out.setFuel (fuel - 1) (by omega) (by omega)).keep (((Fr.refl F0 _).alloc (.cells #[.int .i64 1,.int .i64 xn,.int .i64 xc,.bool xv,.slice xa xlen xcap,.string xnm] 26)).alloc (.cells #[.int .i64 yk,.int .i64 yn,.int .i64 yc,.bool yv,.slice ya ylen ycap,.string ynm] 26)))
   have FX:=hid ((((Fr.refl B.M w).setCell (p:=⟨B.m,3,none⟩) (.inl (.inl rfl)) (.int .i64 (fuel - 1))).alloc (.cells #[.int .i64 1,.int .i64 xn,.int .i64 xc,.bool xv,.slice xa xlen xcap,.string xnm] 26)).alloc (.cells #[.int .i64 yk,.int .i64 yn,.int .i64 yc,.bool yv,.slice ya ylen ycap,.string ynm] 26));have BX:=hid (show (((w.setCell ⟨B.m,3,none⟩ (.int .i64 (fuel - 1))).alloc (.cells #[.int .i64 1,.int .i64 xn,.int .i64 xc,.bool xv,.slice xa xlen xcap,.string xnm] 26)).alloc (.cells #[.int .i64 yk,.int .i64 yn,.int .i64 yc,.bool yv,.slice ya ylen ycap,.string ynm] 26)).heap[w.heap.size]?=some (.cells #[.int .i64 1,.int .i64 xn,.int .i64 xc,.bool xv,.slice xa xlen xcap,.string xnm] 26 (0,0)) from (Below.heap_alloc _ _ _ (by simp [World.setCell])).trans (by have h:=heap_alloc_new (w.setCell ⟨B.m,3,none⟩ (.int .i64 (fuel - 1))) (.cells #[.int .i64 1,.int .i64 xn,.int .i64 xc,.bool xv,.slice xa xlen xcap,.string xnm] 26);rw [SC.out] at h;exact h))
   have BY:=hid (show (((w.setCell ⟨B.m,3,none⟩ (.int .i64 (fuel - 1))).alloc (.cells #[.int .i64 1,.int .i64 xn,.int .i64 xc,.bool xv,.slice xa xlen xcap,.string xnm] 26)).alloc (.cells #[.int .i64 yk,.int .i64 yn,.int .i64 yc,.bool yv,.slice ya ylen ycap,.string ynm] 26)).heap[w.heap.size + 1]?=some (.cells #[.int .i64 yk,.int .i64 yn,.int .i64 yc,.bool yv,.slice ya ylen ycap,.string ynm] 26 (0,0)) by have h:=zS (w.setCell ⟨B.m,3,none⟩ (.int .i64 (fuel - 1))) (.cells #[.int .i64 1,.int .i64 xn,.int .i64 xc,.bool xv,.slice xa xlen xcap,.string xnm] 26) (.cells #[.int .i64 yk,.int .i64 yn,.int .i64 yc,.bool yv,.slice ya ylen ycap,.string ynm] 26);rw [SC.out] at h;exact h)
  go_enter Tryz.func47,Tryz.ntmps47;go_wp2_with fail
  refine (LI.out _).mono ?_;rintro e w1 ⟨rfl,hf1⟩;have BX1:=hid (hf1.heap (b:=w.heap.size) id BX.out);have BY1:=hid (hf1.heap (b:=w.heap.size + 1) id BY.out);have FX1:=hid (FX.out.trans hf1.sub);have HM1:=hid (HM0.out.keep hf1);clear BX BY FX HM0 hf1
  try clear qx qy qm fm szm szx szy
  have FX:=FX1;have BX:=BX1;have BY:=BY1;have HM0:=HM1;clear FX1 BX1 BY1 HM1;have qx:=zA BX.out;have qy:=zA BY.out;have szx:w.heap.size < w1.heap.size:=bl (qx 0);have szy:w.heap.size + 1 < w1.heap.size:=bl (qy 0);obtain ⟨_,_,_,_,hu1,_⟩:=HM0.out.m;have qm:=zA hu1;have szm:=HM0.out.sz.1;clear hu1;go_wp2
  first
  |rename Fin 1=>tg
   refine zG (fun W'=>Fr B.M w1 W'/\W'.cell? ⟨B.m,0,none⟩=some (.slice da dl dc)) [(0,true),(1,true),(2,true),(3,true),(4,true),(5,true),(6,true),(7,false),(8,false)] [] yE (by kernel_rfl) (by kernel_rfl) (by kernel_rfl) (by decide) ?_
  |refine zG (fun W'=>Fr B.M w1 W'/\W'.cell? ⟨B.m,0,none⟩=some (.slice da dl dc)) [(0,true),(1,true),(2,true),(3,true),(4,true),(5,true),(7,true),(6,false),(8,false)] [] yE (by kernel_rfl) (by kernel_rfl) (by kernel_rfl) (by decide) ?_
  have C0:=hid (show w1.cell? ⟨B.m,0,none⟩=some (.slice da dl dc) from (qm 0).trans rfl);clear qx qy qm szm szx szy
  iterate 7
   (refine zH _ rfl ⟨(Fr.refl _ _).drew,C0.out⟩ (fun w' hS=>by
    obtain ⟨hS,c0⟩:=hS;have q0:=zA (hS.heap (b:=w.heap.size) (NM.out _ (Nat.le_refl _)) BX.out);have q1:=zA (hS.heap (b:=w.heap.size + 1) (NM.out _ (Nat.le_succ _)) BY.out);have szu:=World.block_lt_of_cell? _ _ c0;clear hS;go_simp;rfl) ?_)
  go_simp;refine zB rfl ?_;go_wp2_with fail
  refine (UN.out _ FX.out.drew).mono ?_;rintro e w3 ⟨rr,rfl,hrr,hf3⟩;have HRR:=hid hrr;have HF3:=hid hf3;clear hrr hf3;have F3:=hid (FX.out.drew.trans HF3.out.sub);have C3:=hid (HF3.out.cell (M:=F0) (p:=⟨B.m,0,none⟩) id C0.out);go_wp2;refine And.intro (fun _=>⟨(Fr.refl _ _).drew.trans HF3.out.sub,C3.out⟩) ?_;refine zB rfl ?_;go_wp2_with fail
  first
  |rename Fin 1=>tg
   refine (IH.out (.node f ts) (Uni.und D (.node g us)) ⟨xk,xn,xc,xv,xa,xlen,xcap,xnm⟩ rr w3 B n M (fuel - 1) (by omega) (by omega) (by omega) ((HM0.out.keep (Fr.refl F0 _).drew).keep HF3.out) (HD.out.keep F3.out) (HX.out.keep F3.out) (XU.out w3 w3 rr HRR.out (Fr.refl _ _))).mono ?_
  |refine (IH.out (Uni.und D (.node f ts)) (.node g us) rr ⟨yk,yn,yc,yv,ya,ylen,ycap,ynm⟩ w3 B n M (fuel - 1) (by omega) (by omega) (by omega) ((HM0.out.keep (Fr.refl F0 _).drew).keep HF3.out) (HD.out.keep F3.out) (XU.out w3 w3 rr HRR.out (Fr.refl _ _)) (HY.out.keep F3.out)).mono ?_
  rintro e w4 ⟨rfl,M2,f2,hM2,hF2,hB2,hR2⟩;have FX4:=hid (F3.out.trans hF2);have BX4:=hid (hF2.heap (NM.out _ (Nat.le_refl _)) (HF3.out.heap (b:=w.heap.size) id BX.out));have BY4:=hid (hF2.heap (NM.out _ (Nat.le_succ _)) (HF3.out.heap (b:=w.heap.size + 1) id BY.out));have HM4:=hid hM2;have HB4:=hid ((Burning.start (f:=fuel) (by omega)).step (by omega) hB2);have HR4:=hid hR2;have S4:=hid (((Fr.refl B.M w1).drew.trans HF3.out.sub).trans hF2)
  have C4:=hid (show w4.cell? ⟨B.m,0,none⟩=some (.slice da dl dc) by obtain ⟨_,_,_,_,h,_⟩:=hM2.m;exact zA h 0);clear hM2 hF2 hB2 hR2 FX BX BY HM0;go_wp2;refine And.intro (fun _=>⟨S4.out,C4.out⟩) ?_;refine zO (NoPanic.normal ?_);have FX:=FX4;have BX:=BX4;have BY:=BY4;have HM0:=HM4;clear FX4 BX4 BY4 HM4;have qx:=zA BX.out;have qy:=zA BY.out;have szx:w.heap.size < w4.heap.size:=bl (qx 0);have szy:w.heap.size + 1 < w4.heap.size:=bl (qy 0)
  go_wp2
  ·first
   |rename Fin 1=>tg
    go_loopw [223] (fun i wr=> ∃(j:Nat) (M':Mg) (f':Int),j≤ylen∧i= .int .i64 j∧MRep ar dl wr B n M' f' (.slice da dl dc)∧Fr B.M w wr∧wr.heap[w.heap.size]?=some (.cells #[.int .i64 xk,.int .i64 xn,.int .i64 xc,.bool xv,.slice xa xlen xcap,.string xnm] 26 (0,0))∧wr.heap[w.heap.size + 1]?=some (.cells #[.int .i64 1,.int .i64 yn,.int .i64 yc,.bool yv,.slice ya ylen ycap,.string ynm] 26 (0,0))∧Burning fuel (1 + j) f'∧
     (0 < f'->Run D M M' (fun u v=>(u= .node f ts/\v=Uni.und D (.node g us))\/ ∃i,i < j/\ts[i]?=some u/\us[i]?=some v))) (fun i _=>ylen - (intOf i).toNat)
   |go_loopw [223] (fun i wr=> ∃(j:Nat) (M':Mg) (f':Int),j≤ylen∧i= .int .i64 j∧MRep ar dl wr B n M' f' (.slice da dl dc)∧Fr B.M w wr∧wr.heap[w.heap.size]?=some (.cells #[.int .i64 1,.int .i64 xn,.int .i64 xc,.bool xv,.slice xa xlen xcap,.string xnm] 26 (0,0))∧wr.heap[w.heap.size + 1]?=some (.cells #[.int .i64 yk,.int .i64 yn,.int .i64 yc,.bool yv,.slice ya ylen ycap,.string ynm] 26 (0,0))∧Burning fuel (1 + j) f'∧
     (0 < f'->Run D M M' (fun u v=>(u=Uni.und D (.node f ts)/\v= .node g us)\/ ∃i,i < j/\ts[i]?=some u/\us[i]?=some v))) (fun i _=>ylen - (intOf i).toNat)
   case atStart=>exact ⟨0,M2,f2,Nat.zero_le _,rfl,HM0.out,FX.out,BX.out,BY.out,HB4.out,fun h0=>((Run.refl D M).step (HR4.out h0)).mono fun _ _ h=>by rcases h with h | ⟨i,hi,_⟩;exact .inr h;omega⟩
   case round=>
    obtain ⟨j,M1,f1,hj,rfl,hM1,hF1,hBX,hBY,hb1,hR1⟩:=hrel;have HM1:=hid hM1;have HF:=hid hF1;have BX:=hid hBX;have BY:=hid hBY;have HB:=hid hb1;have HR:=hid hR1;clear hM1 hF1 hBX hBY hb1 hR1;have qx:=zA BX.out;have qy:=zA BY.out;have szx:=bl (qx 0);have szy:=bl (qy 0);dsimp only at szx szy;by_cases hlt:j < ylen
    ·obtain ⟨X,b1,o1,gX,rfl,e1⟩:=XE.out.elem (show j < xs.length by rw [LX.out];omega)
     obtain ⟨Y,b2,o2,gY,rfl,e2⟩:=YE.out.elem (show j < ys.length by rw [LY.out];omega);have e1:=e1.keep HF.out;have e2:=e2.keep HF.out;obtain ⟨_,a0,a1,a2,a3,a4,a5⟩:=e1;obtain ⟨_,d0,d1,d2,d3,d4,d5⟩:=e2;have hb1:b1 < wr.heap.size:=World.block_lt_of_cell? _ _ a0;have hb2:b2 < wr.heap.size:=World.block_lt_of_cell? _ _ d5;have hle:(j:Int) < ylen:=by omega
     have hlex:(j:Int) < xlen:=by omega
     have hley:(j:Int) < ylen:=by omega
     have GX:=hid gX;have GY:=hid gY;clear gX gY;obtain ⟨t,ht⟩: ∃t,ts[j]?=some t:=⟨ts[j]'(by rw [LT.out];omega),by simp⟩;obtain ⟨u,hu⟩: ∃u,us[j]?=some u:=⟨us[j]'(by rw [LU.out];omega),by simp⟩;have T:=hid ht;have U:=hid hu;clear ht hu;have LO:=hid (show -90000000000000000<=f1 by have:=HB.out.low;have:=HB.out.less;omega);have HI:=hid (show f1<=F by have:=HB.out.less;omega);go_wp2_with fail
     refine zP 11 (by kernel_rfl) ?_;simp only [List.take_succ_cons,List.take_zero,List.drop_succ_cons,List.drop_zero]
     repeat still_step
     refine wpStill_nil ?_;go_wp2_with fail
     refine (IH.out t u X Y _ B n M1 f1 HI.out (by omega) LO.out (HM1.out.keep (Fr.refl _ _).drew) (HD.out.keep HF.out.drew) ((RX.out j X t GX.out T.out).keep HF.out.drew) ((RY.out j Y u GY.out U.out).keep HF.out.drew)).mono ?_;rintro e w2 ⟨rfl,M2,f2,hM2,hF2,hB2,hR2⟩;have HM2:=hid hM2;have HF2:=hid hF2;have HB2:=hid hB2;have HR2:=hid hR2;clear hM2 hF2 hB2 hR2;go_wp2;go_roundw
     case rel=>
      refine ⟨j + 1,M2,f2,by omega,by go_num,HM2.out,HF.out.drew.trans HF2.out,HF2.out.heap (NM.out _ (Nat.le_refl _)) BX.out,HF2.out.heap (NM.out _ (Nat.le_succ _)) BY.out,HB.out.step (by omega) HB2.out,fun h0=> ?_⟩;refine ((HR.out (by have:=HB2.out.less;omega)).step (HR2.out h0)).mono fun a b hab=> ?_
      rcases hab with hab | ⟨i,hi,h1,h2⟩
      ·exact .inl (.inl hab)
      ·by_cases hij:i=j
       ·subst hij
        rw [T.out] at h1;rw [U.out] at h2;exact .inr ⟨(Option.some.inj h1).symm,(Option.some.inj h2).symm⟩
       ·exact .inl (.inr ⟨i,by omega,h1,h2⟩)
     case measure=>simp [intOf];omega
    ·have hge: ¬(j:Int) < ylen:=by omega
     have hjl:j=ylen:=by omega
     go_wp2;refine bodyPost_ret (v:= .tuple #[]) (results_none rfl _ _ _) rfl ?_
     first
     |rename Fin 1=>tg
      refine ⟨rfl,M1,f1,HM1.out,HF.out,HB.out.done (by omega) (by omega),fun h0=>yX (HR.out h0) (fun h=>by omega) (fun _ _=> .inl ⟨rfl,rfl⟩) (fun i a b ha hb=> .inr ⟨i,?_,ha,hb⟩)⟩
     |refine ⟨rfl,M1,f1,HM1.out,HF.out,HB.out.done (by omega) (by omega),fun h0=>yX (HR.out h0) (fun _ _=> .inl ⟨rfl,rfl⟩) (fun h=>by omega) (fun i a b ha hb=> .inr ⟨i,?_,ha,hb⟩)⟩
     have h1:=(List.getElem?_eq_some_iff.1 ha).1;have h2:=(List.getElem?_eq_some_iff.1 hb).1;have:=LT.out;have:=LU.out;omega
  ·first
   |rename Fin 1=>tg
    go_loopw [223] (fun i wr=> ∃(j:Nat) (M':Mg) (f':Int),j≤xlen∧i= .int .i64 j∧MRep ar dl wr B n M' f' (.slice da dl dc)∧Fr B.M w wr∧wr.heap[w.heap.size]?=some (.cells #[.int .i64 xk,.int .i64 xn,.int .i64 xc,.bool xv,.slice xa xlen xcap,.string xnm] 26 (0,0))∧wr.heap[w.heap.size + 1]?=some (.cells #[.int .i64 1,.int .i64 yn,.int .i64 yc,.bool yv,.slice ya ylen ycap,.string ynm] 26 (0,0))∧Burning fuel (1 + j) f'∧
     (0 < f'->Run D M M' (fun u v=>(u= .node f ts/\v=Uni.und D (.node g us))\/ ∃i,i < j/\ts[i]?=some u/\us[i]?=some v))) (fun i _=>xlen - (intOf i).toNat)
   |go_loopw [223] (fun i wr=> ∃(j:Nat) (M':Mg) (f':Int),j≤xlen∧i= .int .i64 j∧MRep ar dl wr B n M' f' (.slice da dl dc)∧Fr B.M w wr∧wr.heap[w.heap.size]?=some (.cells #[.int .i64 1,.int .i64 xn,.int .i64 xc,.bool xv,.slice xa xlen xcap,.string xnm] 26 (0,0))∧wr.heap[w.heap.size + 1]?=some (.cells #[.int .i64 yk,.int .i64 yn,.int .i64 yc,.bool yv,.slice ya ylen ycap,.string ynm] 26 (0,0))∧Burning fuel (1 + j) f'∧
     (0 < f'->Run D M M' (fun u v=>(u=Uni.und D (.node f ts)/\v= .node g us)\/ ∃i,i < j/\ts[i]?=some u/\us[i]?=some v))) (fun i _=>xlen - (intOf i).toNat)
   case atStart=>exact ⟨0,M2,f2,Nat.zero_le _,rfl,HM0.out,FX.out,BX.out,BY.out,HB4.out,fun h0=>((Run.refl D M).step (HR4.out h0)).mono fun _ _ h=>by rcases h with h | ⟨i,hi,_⟩;exact .inr h;omega⟩
   case round=>
    obtain ⟨j,M1,f1,hj,rfl,hM1,hF1,hBX,hBY,hb1,hR1⟩:=hrel;have HM1:=hid hM1;have HF:=hid hF1;have BX:=hid hBX;have BY:=hid hBY;have HB:=hid hb1;have HR:=hid hR1;clear hM1 hF1 hBX hBY hb1 hR1;have qx:=zA BX.out;have qy:=zA BY.out;have szx:=bl (qx 0);have szy:=bl (qy 0);dsimp only at szx szy;by_cases hlt:j < xlen
    ·obtain ⟨X,b1,o1,gX,rfl,e1⟩:=XE.out.elem (show j < xs.length by rw [LX.out];omega)
     obtain ⟨Y,b2,o2,gY,rfl,e2⟩:=YE.out.elem (show j < ys.length by rw [LY.out];omega);have e1:=e1.keep HF.out;have e2:=e2.keep HF.out;obtain ⟨_,a0,a1,a2,a3,a4,a5⟩:=e1;obtain ⟨_,d0,d1,d2,d3,d4,d5⟩:=e2;have hb1:b1 < wr.heap.size:=World.block_lt_of_cell? _ _ a0;have hb2:b2 < wr.heap.size:=World.block_lt_of_cell? _ _ d5;have hle:(j:Int) < xlen:=by omega
     have hlex:(j:Int) < xlen:=by omega
     have hley:(j:Int) < ylen:=by omega
     have GX:=hid gX;have GY:=hid gY;clear gX gY;obtain ⟨t,ht⟩: ∃t,ts[j]?=some t:=⟨ts[j]'(by rw [LT.out];omega),by simp⟩;obtain ⟨u,hu⟩: ∃u,us[j]?=some u:=⟨us[j]'(by rw [LU.out];omega),by simp⟩;have T:=hid ht;have U:=hid hu;clear ht hu;have LO:=hid (show -90000000000000000<=f1 by have:=HB.out.low;have:=HB.out.less;omega);have HI:=hid (show f1<=F by have:=HB.out.less;omega);go_wp2_with fail
     refine zP 11 (by kernel_rfl) ?_;simp only [List.take_succ_cons,List.take_zero,List.drop_succ_cons,List.drop_zero]
     repeat still_step
     refine wpStill_nil ?_;go_wp2_with fail
     refine (IH.out t u X Y _ B n M1 f1 HI.out (by omega) LO.out (HM1.out.keep (Fr.refl _ _).drew) (HD.out.keep HF.out.drew) ((RX.out j X t GX.out T.out).keep HF.out.drew) ((RY.out j Y u GY.out U.out).keep HF.out.drew)).mono ?_;rintro e w2 ⟨rfl,M2,f2,hM2,hF2,hB2,hR2⟩;have HM2:=hid hM2;have HF2:=hid hF2;have HB2:=hid hB2;have HR2:=hid hR2;clear hM2 hF2 hB2 hR2;go_wp2;go_roundw
     case rel=>
      refine ⟨j + 1,M2,f2,by omega,by go_num,HM2.out,HF.out.drew.trans HF2.out,HF2.out.heap (NM.out _ (Nat.le_refl _)) BX.out,HF2.out.heap (NM.out _ (Nat.le_succ _)) BY.out,HB.out.step (by omega) HB2.out,fun h0=> ?_⟩;refine ((HR.out (by have:=HB2.out.less;omega)).step (HR2.out h0)).mono fun a b hab=> ?_
      rcases hab with hab | ⟨i,hi,h1,h2⟩
      ·exact .inl (.inl hab)
      ·by_cases hij:i=j
       ·subst hij
        rw [T.out] at h1;rw [U.out] at h2;exact .inr ⟨(Option.some.inj h1).symm,(Option.some.inj h2).symm⟩
       ·exact .inl (.inr ⟨i,by omega,h1,h2⟩)
     case measure=>simp [intOf];omega
    ·have hge: ¬(j:Int) < xlen:=by omega
     have hjl:j=xlen:=by omega
     go_wp2;refine bodyPost_ret (v:= .tuple #[]) (results_none rfl _ _ _) rfl ?_
     first
     |rename Fin 1=>tg
      refine ⟨rfl,M1,f1,HM1.out,HF.out,HB.out.done (by omega) (by omega),fun h0=>yX (HR.out h0) (fun h=>by omega) (fun _ _=> .inl ⟨rfl,rfl⟩) (fun i a b ha hb=> .inr ⟨i,?_,ha,hb⟩)⟩
     |refine ⟨rfl,M1,f1,HM1.out,HF.out,HB.out.done (by omega) (by omega),fun h0=>yX (HR.out h0) (fun _ _=> .inl ⟨rfl,rfl⟩) (fun h=>by omega) (fun i a b ha hb=> .inr ⟨i,?_,ha,hb⟩)⟩
     have h1:=(List.getElem?_eq_some_iff.1 ha).1;have h2:=(List.getElem?_eq_some_iff.1 hb).1;have:=LT.out;have:=LU.out;omega
end
section
variable {da:Option Addr}{dl dc:Nat}{D:zE}{ar:Nat->Nat}
theorem MRep.cls {w:World}{B:MB}{n:Nat}{M:Mg}{fuel:Int}{dv:Value}(h:MRep ar dl w B n M fuel dv){p:Nat}(hp:p < n): ∃cc vc,
 w.heap[B.m]?=some (.cells #[dv,.slice (some ⟨B.c,0,none⟩) n cc,.slice (some ⟨B.v,0,none⟩) n vc,.int .i64 fuel] 80 (0,0))/\
 w.cell? ⟨B.c,p,none⟩=some (.int .i64 (M.cls p))/\M.cls p < n/\B.m < w.heap.size/\B.c < w.heap.size/\B.v < w.heap.size/\B.m≠B.c/\B.m≠B.v/\B.c≠B.v:=by
 obtain ⟨ca,cc,va,vc,hu,hcv⟩:=h.m;obtain ⟨rfl,rfl⟩:=hcv (by omega);obtain ⟨c,hc,hc'⟩:=h.c (by omega);exact ⟨cc,vc,hu,(zA hc p).trans (hc' p hp),h.lt p hp,h.sz.1,(h.sz.2 (by omega)).1,(h.sz.2 (by omega)).2,(h.ne (by omega)).1,(h.ne (by omega)).2.1,(h.ne (by omega)).2.2⟩
theorem merge_same (p q:Nat)(x y:TyV)(w:World)(B:MB)(n:Nat)(M:Mg)(fuel:Int)(hF2:fuel<=20000)(hf2:2<=fuel)
 (hM:MRep ar dl w B n M fuel (.slice da dl dc)) (hx:YIn ar dl w B n x (.var p)) (hy:YIn ar dl w B n y (.var q)) (hpq:M.cls p=M.cls q):
 Calls Tryz.prog 47 #[.pointer (some ⟨B.m,0,none⟩),x.val,y.val] w (MPost ar dl D B n (.slice da dl dc) w M fuel (.var p) (.var q)):=by
 have hp:=hx.h.var2;have hq:=hy.h.var2;obtain ⟨cc,vc,hu,hcp,hP,szm,szc,szv,n1,n2,n3⟩:=hM.cls hp;obtain ⟨_,_,_,hcq,hQ,_⟩:=hM.cls hq;have kx:x.k=2:=hx.r.kind;have ky:y.k=2:=hy.r.kind;have xn:x.n=p:=by obtain ⟨xs,_,_,_,sx⟩:=hx.r.flat;exact sx.2
 have yn:y.n=q:=by obtain ⟨xs,_,_,_,sx⟩:=hy.r.flat;exact sx.2
 have hpn:(p:Int) < n:=by omega
 have hqn:(q:Int) < n:=by omega
 rw [<-hpq] at hcq;have qm:=zA hu;have fm:=zC hu;have HM:=hid hM;have HPQ:=hid hpq;clear hM hx hy hu hpq;obtain ⟨xk,xn,xc,xv,xa,xlen,xcap,xnm⟩:=x;obtain ⟨yk,yn,yc,yv,ya,ylen,ycap,ynm⟩:=y;unfold TyV.val at *;dsimp only at *;subst kx xn ky yn;have hle0: ¬(fuel - 1<=0):=by omega
 go_enter Tryz.func47,Tryz.ntmps47;go_wp2;go_quiet (fail);go_wp2;refine bodyPost_ret (v:= .tuple #[]) (results_none rfl _ _ _) rfl ?_;refine ⟨rfl,M,fuel - 1,((HM.out.setFuel (fuel - 1) (by omega) (by omega)).keep (((Fr.refl F0 _).alloc _).alloc _)).keep ((Fr.refl F0 _).drawn _),((((Fr.refl B.M w).setCell (p:=⟨B.m,3,none⟩) (.inl (.inl rfl)) _).alloc _).alloc _).drawn _,(Burning.start (by omega)).done (by omega) (by omega),fun _=>merged_same HPQ.out⟩
end
theorem cells6_one (y:TyV): ∀u∈zW y,u.oneCell'=true:=by
 intro u hu;simp [zW] at hu;rcases hu with rfl | rfl | rfl | rfl | rfl | rfl <;>rfl
theorem flat6_one (rs:List TyV): ∀u∈rs.flatMap zW,u.oneCell'=true:=by
 intro u hu;obtain ⟨y,_,hy⟩:=List.mem_flatMap.1 hu;exact cells6_one y u hy
theorem xB.news {w:World}{M:Nat->Prop}{b off:Nat}{xs:List TyV}(h: ∀i y,xs[i]?=some y->Elem6 w M b off i y):
 ∀(j:Nat) (u:Value),(xs.flatMap zW)[j]?=some u->w.cell? ((⟨b,off,none⟩:Addr).add j)=some u:=by
 intro j u hu;have hadd:(⟨b,off,none⟩:Addr).add j=⟨b,off + j,none⟩:=by unfold Addr.add;split <;>simp_all
 rw [hadd];have hlt:=(List.getElem?_eq_some_iff.1 hu).1;rw [wY] at hlt;have hi:j / 6 < xs.length:=by omega
 have hy:xs[j / 6]?=some xs[j / 6]:=by simp [hi]
 have e:=h _ _ hy;have hj:j=j / 6 * 6 + j % 6:=by omega
 have hm:j % 6 < 6:=Nat.mod_lt _ (by omega);have g:=flat6_get xs (j / 6) (j % 6) _ hy hm;rw [<-hj,hu] at g
 have key: ∀r,r=j % 6→w.cell? ⟨b,off + j / 6 * 6 + r,none⟩=some u:=by
  intro r hr;rw [<-hr] at g hm;rcases r with _ | _ | _ | _ | _ | _ | r
  ·simp [zW] at g;rw [g];exact e.c0
  ·simp [zW] at g;rw [g];exact e.c1
  ·simp [zW] at g;rw [g];exact e.c2
  ·simp [zW] at g;rw [g];exact e.c3
  ·simp [zW] at g;rw [g];exact e.c4
  ·simp [zW] at g;rw [g];exact e.c5
  ·omega
 have:=key _ rfl
 rwa [show off + j / 6 * 6 + j % 6=off + j by omega] at this
section
variable {ops:Array Oper}{rest:List Oper}{o:Oper}{a:Act}{Q:Exit->Act->World->Prop}{w:World}
theorem wpList_app (hgd:o.guard=none)(s x:Operand)(ho:o.op= .call {callee:= .builtin .append,args:= #[s,x],argTypes:= #[24,24]})
 (base:Nat) (v:Value) (rs:List TyV) (hs:a.eval s=v) (hown:OwnT w base v rs) (hv0:rs= []->v= .slice none 0 0)
 (M:Nat->Prop) (xa:Option Addr) (m c:Nat) (xs:List TyV) (hx:a.eval x= .slice xa m c) (he:xB w M xa xs) (hxl:xs.length=m)
 (h63:rs.length + m<=1954687338268) (hbase:base<=w.heap.size)
 (h: ∀v' w',OwnT w' base v' (rs ++ xs)->(rs ++ xs= []->v'= .slice none 0 0)->w.grownBy w' v.ownBlock->(∀g,v'.ownBlock=some g->v.ownBlock=some g\/g=w.heap.size)->wpList Tryz.prog ops Q rest (a.put o.dst v') w'):
 wpList Tryz.prog ops Q (o::rest) a w:=by
 obtain ⟨i0,hi0,hz0,hz1,hz2⟩:=info_parts info26;by_cases hm:m=0
 ·subst hm
  have:xs= []:=List.eq_nil_of_length_eq_zero hxl;subst this;rw [List.append_nil] at h
  have hv: ∃b l cp,v= .slice b l cp∧l≤cp:=by
   rcases hown.2 with ⟨hv,_⟩ | ⟨g,cap,cur,hv,_,_,hn,_⟩
   ·exact ⟨none,0,0,hv,Nat.le_refl _⟩
   ·exact ⟨_,_,_,hv,hn⟩
  obtain ⟨b,l,cp,rfl,hle⟩:=hv;refine wpList_plain hgd fun _ hK=> ?_
  unfold Oper.wp execOp
  have hr:(Builtin.append_ #[24,24] o.type #[.slice b l cp,.slice xa 0 c]).run Tryz.prog w= .ok (.slice b l cp) w:=by
   cases b <;>cases xa <;>simp [Builtin.append_,run_underlying Tryz.underlying24,sizeOf,typeInfo,hi0,hle,Builtin.lenOf,Builtin.firstCells,loadCells,storeCells,go_sem]
  simp only [ho,resolve,invoke,builtin,Sem.run_bind,Sem.run_pure,Result.andThen_ok,List.map_toArray,List.map_cons,List.map_nil,hs,hx,hr];exact hK _ _ (h _ w hown hv0 (World.grownBy.refl w _) (fun g hg=> .inl hg))
 ·rcases he with rfl | ⟨b,off,rfl,he⟩
  ·exact absurd hxl.symm hm
  ·refine wpList_append_lies _ hgd s x 24 ho base 26 i0 _ 6 72 Tryz.underlying24 hi0 hz0 hz1 hz2 rfl (by omega) v rs.length (rs.flatMap zW) hs hown ⟨b,off,none⟩ m c (xs.flatMap zW) hx (by rw [wY,hxl]) (xB.news he) (flat6_one xs) (by omega) (by unfold maxLen;omega) (by omega) hbase w.heap.size rfl ?_
   intro g cap w' h1 h2 h3 h4;refine h _ w' ?_ (fun h0=> ?_) h2 (fun g' hg'=> ?_)
   ·unfold OwnT
    rw [List.length_append,hxl,List.flatMap_append];exact h1
   ·rw [List.append_eq_nil_iff] at h0
    rw [h0.2] at hxl;simp at hxl;omega
   ·simp [Value.ownBlock] at hg'
    subst hg';exact h3
end
end Go.Proofs.YtpekidjfbinekaaGreatDoor
