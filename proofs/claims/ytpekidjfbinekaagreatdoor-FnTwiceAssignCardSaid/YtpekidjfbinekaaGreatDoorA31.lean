/- W21 -/
import Derived.Test.YtpekidjfbinekaaGreatDoorA30
set_option maxRecDepth 100000
set_option maxHeartbeats 60000000
set_option linter.all false
namespace Go.Proofs.YtpekidjfbinekaaGreatDoor
open Go.RowKit Uni
section
variable {da:Option Addr}{dl dc:Nat}{D:zE}{ar:Nat->Nat}
theorem merge_named:
 (∀(F:Nat) (ih:MStep da dl dc D ar F) (f g:Lab) (ts us:List Tm) (x y:TyV) (w:World) (B:MB) (n:Nat) (M:Mg) (fuel:Int) (hF:fuel≤F + 1) (hF2:F + 1≤20000) (hf2:2≤fuel) (hM:MRep ar dl w B n M fuel (.slice da dl dc)) (hd:DRep w B.M da dl D ar) (hx:YIn ar dl w B n x (.node f ts)) (hy:YIn ar dl w B n y (.node g us)) (hf:f.kind=1) (hg:g.kind≠1) (hg4:g.kind < 4),
  Calls Tryz.prog 47 #[.pointer (some ⟨B.m,0,none⟩),x.val,y.val] w (MPost ar dl D B n (.slice da dl dc) w M fuel (.node f ts) (.node g us)))/\
 (∀(F:Nat) (ih:MStep da dl dc D ar F) (f g:Lab) (ts us:List Tm) (x y:TyV) (w:World) (B:MB) (n:Nat) (M:Mg) (fuel:Int) (hF:fuel≤F + 1) (hF2:F + 1≤20000) (hf2:2≤fuel) (hM:MRep ar dl w B n M fuel (.slice da dl dc)) (hd:DRep w B.M da dl D ar) (hx:YIn ar dl w B n x (.node f ts)) (hy:YIn ar dl w B n y (.node g us)) (hf:f.kind≠1) (hg:g.kind=1) (hf4:f.kind < 4),
  Calls Tryz.prog 47 #[.pointer (some ⟨B.m,0,none⟩),x.val,y.val] w (MPost ar dl D B n (.slice da dl dc) w M fuel (.node f ts) (.node g us)))/\
 (∀(F:Nat) (ih:MStep da dl dc D ar F) (f g:Lab) (ts us:List Tm) (x y:TyV) (w:World) (B:MB) (n:Nat) (M:Mg) (fuel:Int) (hF:fuel≤F + 1) (hF2:F + 1≤20000) (hf2:2≤fuel) (hM:MRep ar dl w B n M fuel (.slice da dl dc)) (hd:DRep w B.M da dl D ar) (hx:YIn ar dl w B n x (.node f ts)) (hy:YIn ar dl w B n y (.node g us)) (hf:f.kind=1) (hg:g.kind=1),
  Calls Tryz.prog 47 #[.pointer (some ⟨B.m,0,none⟩),x.val,y.val] w (MPost ar dl D B n (.slice da dl dc) w M fuel (.node f ts) (.node g us))):=by
 refine ⟨@fun F ih f g ts us x y w B n M fuel hF hF2 hf2 hM hd hx hy hf hg hg4=>have tg:Fin 1:=0;?_,@fun F ih f g ts us x y w B n M fuel hF hF2 hf2 hM hd hx hy hf hg hf4=>have tg:Fin 2:=0;?_,@fun F ih f g ts us x y w B n M fuel hF hF2 hf2 hM hd hx hy hf hg=>have tg:Fin 3:=0;?_⟩
 all_goals
  have NM:=hid (fun b (h:w.heap.size<=b) (hb:B.M b)=>(Nat.not_lt.2 h (hM.below b hb):False));obtain ⟨xs,fx,nx,rx,sx⟩:=hx.r.flat;obtain ⟨ys,fy,ny,ry,sy⟩:=hy.r.flat;have sx:Shape x f xs:=sx;have sy:Shape y g ys:=sy;have kx:x.k=f.kind:=sx.k;have ky:y.k=g.kind:=sy.k;have x2:(x.k==2)=false:=by have:=sx.k2;simp;omega
  have y2:(y.k==2)=false:=by have:=sy.k2;simp;omega
  first
  |rename Fin 1=>tg
   have x1:x.k=1:=by rw [kx,hf];rfl
   have y1:(y.k==1)=false:=by rw [ky];simp;omega
   have LI:=hid (fun (w':World)=>yG y false w' (by rw [ky];simp;omega))
  |rename Fin 2=>tg
   have x1:(x.k==1)=false:=by rw [kx];simp;omega
   have y1:y.k=1:=by rw [ky,hg];rfl
   have LJ:=hid (fun (w':World)=>yG x false w' (by rw [kx];simp;omega))
  |have x1:x.k=1:=by rw [kx,hf];rfl
   have y1:y.k=1:=by rw [ky,hg];rfl
   have LI:=hid (fun (w':World)=>yG y false w' (by rw [ky];simp;omega));have LJ:=hid (fun (w':World)=>yG x false w' (by rw [kx];simp;omega))
  obtain ⟨ca,cc,va,vc,hu,_⟩:=hM.m;have szm:=hM.sz.1;have qm:=zA hu;have fm:=zC hu;have XE:=hid fx.elems;have YE:=hid fy.elems;have LX:=hid fx.len;have LY:=hid fy.len;have LT:=hid (show ts.length=x.len by rw [<-fx.len];exact nx);have LU:=hid (show us.length=y.len by rw [<-fy.len];exact ny);have RX:=hid (fun i z t hz ht=>(⟨rx i z t hz ht,hx.g.kid (List.mem_of_getElem? ht),hx.h.kid (List.mem_of_getElem? ht)⟩:YIn ar dl w B n z t))
  have RY:=hid (fun i z t hz ht=>(⟨ry i z t hz ht,hy.g.kid (List.mem_of_getElem? ht),hy.h.kid (List.mem_of_getElem? ht)⟩:YIn ar dl w B n z t));have hbx:=fx.bound.2.1;have hby:=fy.bound.2.1;clear fx nx rx sx fy ny ry sy;have HM:=hid hM;have HD:=hid hd;have HX:=hid hx;have HY:=hid hy;have IH:=hid ih;clear hM hd hx hy ih hu kx ky;obtain ⟨xk,xn,xc,xv,xa,xlen,xcap,xnm⟩:=x;obtain ⟨yk,yn,yc,yv,ya,ylen,ycap,ynm⟩:=y
  unfold TyV.val at *;dsimp only at *
  first
  |rename Fin 1=>tg
   subst x1
  |rename Fin 2=>tg
   subst y1
  |subst x1 y1
  have hle0: ¬(fuel - 1<=0):=by omega
  have hfu:fuel<=20000:=by omega
  have SC:=hid (show (w.setCell ⟨B.m,3,none⟩ (.int .i64 (fuel - 1))).heap.size=w.heap.size by simp [World.setCell])
  first
  |rename Fin 1=>tg
   have HM0:=hid ((HM.out.setFuel (fuel - 1) (by omega) (by omega)).keep (((Fr.refl F0 _).alloc (.cells #[.int .i64 1,.int .i64 xn,.int .i64 xc,.bool xv,.slice xa xlen xcap,.string xnm] 26)).alloc (.cells #[.int .i64 yk,.int .i64 yn,.int .i64 yc,.bool yv,.slice ya ylen ycap,.string ynm] 26)));have FX:=hid ((((Fr.refl B.M w).setCell (p:=⟨B.m,3,none⟩) (.inl (.inl rfl)) (.int .i64 (fuel - 1))).alloc (.cells #[.int .i64 1,.int .i64 xn,.int .i64 xc,.bool xv,.slice xa xlen xcap,.string xnm] 26)).alloc (.cells #[.int .i64 yk,.int .i64 yn,.int .i64 yc,.bool yv,.slice ya ylen ycap,.string ynm] 26))
   have BX:=hid (show (((w.setCell ⟨B.m,3,none⟩ (.int .i64 (fuel - 1))).alloc (.cells #[.int .i64 1,.int .i64 xn,.int .i64 xc,.bool xv,.slice xa xlen xcap,.string xnm] 26)).alloc (.cells #[.int .i64 yk,.int .i64 yn,.int .i64 yc,.bool yv,.slice ya ylen ycap,.string ynm] 26)).heap[w.heap.size]?=some (.cells #[.int .i64 1,.int .i64 xn,.int .i64 xc,.bool xv,.slice xa xlen xcap,.string xnm] 26 (0,0)) from (Below.heap_alloc _ _ _ (by simp [World.setCell])).trans (by have h:=heap_alloc_new (w.setCell ⟨B.m,3,none⟩ (.int .i64 (fuel - 1))) (.cells #[.int .i64 1,.int .i64 xn,.int .i64 xc,.bool xv,.slice xa xlen xcap,.string xnm] 26);rw [SC.out] at h;exact h))
   have BY:=hid (show (((w.setCell ⟨B.m,3,none⟩ (.int .i64 (fuel - 1))).alloc (.cells #[.int .i64 1,.int .i64 xn,.int .i64 xc,.bool xv,.slice xa xlen xcap,.string xnm] 26)).alloc (.cells #[.int .i64 yk,.int .i64 yn,.int .i64 yc,.bool yv,.slice ya ylen ycap,.string ynm] 26)).heap[w.heap.size + 1]?=some (.cells #[.int .i64 yk,.int .i64 yn,.int .i64 yc,.bool yv,.slice ya ylen ycap,.string ynm] 26 (0,0)) by have h:=zS (w.setCell ⟨B.m,3,none⟩ (.int .i64 (fuel - 1))) (.cells #[.int .i64 1,.int .i64 xn,.int .i64 xc,.bool xv,.slice xa xlen xcap,.string xnm] 26) (.cells #[.int .i64 yk,.int .i64 yn,.int .i64 yc,.bool yv,.slice ya ylen ycap,.string ynm] 26);rw [SC.out] at h;exact h)
  |rename Fin 2=>tg
   have HM0:=hid ((HM.out.setFuel (fuel - 1) (by omega) (by omega)).keep (((Fr.refl F0 _).alloc (.cells #[.int .i64 xk,.int .i64 xn,.int .i64 xc,.bool xv,.slice xa xlen xcap,.string xnm] 26)).alloc (.cells #[.int .i64 1,.int .i64 yn,.int .i64 yc,.bool yv,.slice ya ylen ycap,.string ynm] 26)));have FX:=hid ((((Fr.refl B.M w).setCell (p:=⟨B.m,3,none⟩) (.inl (.inl rfl)) (.int .i64 (fuel - 1))).alloc (.cells #[.int .i64 xk,.int .i64 xn,.int .i64 xc,.bool xv,.slice xa xlen xcap,.string xnm] 26)).alloc (.cells #[.int .i64 1,.int .i64 yn,.int .i64 yc,.bool yv,.slice ya ylen ycap,.string ynm] 26))
   have BX:=hid (show (((w.setCell ⟨B.m,3,none⟩ (.int .i64 (fuel - 1))).alloc (.cells #[.int .i64 xk,.int .i64 xn,.int .i64 xc,.bool xv,.slice xa xlen xcap,.string xnm] 26)).alloc (.cells #[.int .i64 1,.int .i64 yn,.int .i64 yc,.bool yv,.slice ya ylen ycap,.string ynm] 26)).heap[w.heap.size]?=some (.cells #[.int .i64 xk,.int .i64 xn,.int .i64 xc,.bool xv,.slice xa xlen xcap,.string xnm] 26 (0,0)) from (Below.heap_alloc _ _ _ (by simp [World.setCell])).trans (by have h:=heap_alloc_new (w.setCell ⟨B.m,3,none⟩ (.int .i64 (fuel - 1))) (.cells #[.int .i64 xk,.int .i64 xn,.int .i64 xc,.bool xv,.slice xa xlen xcap,.string xnm] 26);rw [SC.out] at h;exact h))
   have BY:=hid (show (((w.setCell ⟨B.m,3,none⟩ (.int .i64 (fuel - 1))).alloc (.cells #[.int .i64 xk,.int .i64 xn,.int .i64 xc,.bool xv,.slice xa xlen xcap,.string xnm] 26)).alloc (.cells #[.int .i64 1,.int .i64 yn,.int .i64 yc,.bool yv,.slice ya ylen ycap,.string ynm] 26)).heap[w.heap.size + 1]?=some (.cells #[.int .i64 1,.int .i64 yn,.int .i64 yc,.bool yv,.slice ya ylen ycap,.string ynm] 26 (0,0)) by have h:=zS (w.setCell ⟨B.m,3,none⟩ (.int .i64 (fuel - 1))) (.cells #[.int .i64 xk,.int .i64 xn,.int .i64 xc,.bool xv,.slice xa xlen xcap,.string xnm] 26) (.cells #[.int .i64 1,.int .i64 yn,.int .i64 yc,.bool yv,.slice ya ylen ycap,.string ynm] 26);rw [SC.out] at h;exact h)
  |have HM0:=hid ((HM.out.setFuel (fuel - 1) (by omega) (by omega)).keep (((Fr.refl F0 _).alloc (.cells #[.int .i64 1,.int .i64 xn,.int .i64 xc,.bool xv,.slice xa xlen xcap,.string xnm] 26)).alloc (.cells #[.int .i64 1,.int .i64 yn,.int .i64 yc,.bool yv,.slice ya ylen ycap,.string ynm] 26)))
   have FX:=hid ((((Fr.refl B.M w).setCell (p:=⟨B.m,3,none⟩) (.inl (.inl rfl)) (.int .i64 (fuel - 1))).alloc (.cells #[.int .i64 1,.int .i64 xn,.int .i64 xc,.bool xv,.slice xa xlen xcap,.string xnm] 26)).alloc (.cells #[.int .i64 1,.int .i64 yn,.int .i64 yc,.bool yv,.slice ya ylen ycap,.string ynm] 26));have BX:=hid (show (((w.setCell ⟨B.m,3,none⟩ (.int .i64 (fuel - 1))).alloc (.cells #[.int .i64 1,.int .i64 xn,.int .i64 xc,.bool xv,.slice xa xlen xcap,.string xnm] 26)).alloc (.cells #[.int .i64 1,.int .i64 yn,.int .i64 yc,.bool yv,.slice ya ylen ycap,.string ynm] 26)).heap[w.heap.size]?=some (.cells #[.int .i64 1,.int .i64 xn,.int .i64 xc,.bool xv,.slice xa xlen xcap,.string xnm] 26 (0,0)) from (Below.heap_alloc _ _ _ (by simp [World.setCell])).trans (by have h:=heap_alloc_new (w.setCell ⟨B.m,3,none⟩ (.int .i64 (fuel - 1))) (.cells #[.int .i64 1,.int .i64 xn,.int .i64 xc,.bool xv,.slice xa xlen xcap,.string xnm] 26);rw [SC.out] at h;exact h))
   have BY:=hid (show (((w.setCell ⟨B.m,3,none⟩ (.int .i64 (fuel - 1))).alloc (.cells #[.int .i64 1,.int .i64 xn,.int .i64 xc,.bool xv,.slice xa xlen xcap,.string xnm] 26)).alloc (.cells #[.int .i64 1,.int .i64 yn,.int .i64 yc,.bool yv,.slice ya ylen ycap,.string ynm] 26)).heap[w.heap.size + 1]?=some (.cells #[.int .i64 1,.int .i64 yn,.int .i64 yc,.bool yv,.slice ya ylen ycap,.string ynm] 26 (0,0)) by have h:=zS (w.setCell ⟨B.m,3,none⟩ (.int .i64 (fuel - 1))) (.cells #[.int .i64 1,.int .i64 xn,.int .i64 xc,.bool xv,.slice xa xlen xcap,.string xnm] 26) (.cells #[.int .i64 1,.int .i64 yn,.int .i64 yc,.bool yv,.slice ya ylen ycap,.string ynm] 26);rw [SC.out] at h;exact h)
  go_enter Tryz.func47,Tryz.ntmps47;go_wp2_with fail
  first
  |rename Fin 2=>tg
   refine (LJ.out _).mono ?_
  |refine (LI.out _).mono ?_
  rintro e w1 ⟨rfl,hf1⟩;have BX1:=hid (hf1.heap (b:=w.heap.size) id BX.out);have BY1:=hid (hf1.heap (b:=w.heap.size + 1) id BY.out);have FX1:=hid (FX.out.trans hf1.sub);have HM1:=hid (HM0.out.keep hf1);clear BX BY FX HM0 hf1
  try clear qx qy qm fm szm szx szy
  have FX:=FX1;have BX:=BX1;have BY:=BY1;have HM0:=HM1;clear FX1 BX1 BY1 HM1;have qx:=zA BX.out;have qy:=zA BY.out;have szx:w.heap.size < w1.heap.size:=bl (qx 0);have szy:w.heap.size + 1 < w1.heap.size:=bl (qy 0)
  first
  |rename Fin 3=>tg
   go_wp2_with fail
   refine (LJ.out _).mono ?_;rintro e w2 ⟨rfl,hf1⟩;have BX1:=hid (hf1.heap (b:=w.heap.size) id BX.out);have BY1:=hid (hf1.heap (b:=w.heap.size + 1) id BY.out);have FX1:=hid (FX.out.trans hf1.sub);have HM1:=hid (HM0.out.keep hf1);clear BX BY FX HM0 hf1
   try clear qx qy qm fm szm szx szy
   have FX:=FX1;have BX:=BX1;have BY:=BY1;have HM0:=HM1;clear FX1 BX1 BY1 HM1;have qx:=zA BX.out;have qy:=zA BY.out;have szx:w.heap.size < w2.heap.size:=bl (qx 0);have szy:w.heap.size + 1 < w2.heap.size:=bl (qy 0)
  |skip
  go_wp2
  ·first
   |rename Fin 1=>tg
    go_loopw [223] (fun i wr=> ∃(j:Nat) (M':Mg) (f':Int),j≤ylen∧i= .int .i64 j∧MRep ar dl wr B n M' f' (.slice da dl dc)∧Fr B.M w wr∧wr.heap[w.heap.size]?=some (.cells #[.int .i64 1,.int .i64 xn,.int .i64 xc,.bool xv,.slice xa xlen xcap,.string xnm] 26 (0,0))∧wr.heap[w.heap.size + 1]?=some (.cells #[.int .i64 yk,.int .i64 yn,.int .i64 yc,.bool yv,.slice ya ylen ycap,.string ynm] 26 (0,0))∧Burning fuel (0 + j) f'∧
     (0 < f'->Run D M M' (fun u v=>(False)\/ ∃i,i < j/\ts[i]?=some u/\us[i]?=some v))) (fun i _=>ylen - (intOf i).toNat)
   |rename Fin 2=>tg
    go_loopw [223] (fun i wr=> ∃(j:Nat) (M':Mg) (f':Int),j≤ylen∧i= .int .i64 j∧MRep ar dl wr B n M' f' (.slice da dl dc)∧Fr B.M w wr∧wr.heap[w.heap.size]?=some (.cells #[.int .i64 xk,.int .i64 xn,.int .i64 xc,.bool xv,.slice xa xlen xcap,.string xnm] 26 (0,0))∧wr.heap[w.heap.size + 1]?=some (.cells #[.int .i64 1,.int .i64 yn,.int .i64 yc,.bool yv,.slice ya ylen ycap,.string ynm] 26 (0,0))∧Burning fuel (0 + j) f'∧
     (0 < f'->Run D M M' (fun u v=>(False)\/ ∃i,i < j/\ts[i]?=some u/\us[i]?=some v))) (fun i _=>ylen - (intOf i).toNat)
   |go_loopw [223] (fun i wr=> ∃(j:Nat) (M':Mg) (f':Int),j≤ylen∧i= .int .i64 j∧MRep ar dl wr B n M' f' (.slice da dl dc)∧Fr B.M w wr∧wr.heap[w.heap.size]?=some (.cells #[.int .i64 1,.int .i64 xn,.int .i64 xc,.bool xv,.slice xa xlen xcap,.string xnm] 26 (0,0))∧wr.heap[w.heap.size + 1]?=some (.cells #[.int .i64 1,.int .i64 yn,.int .i64 yc,.bool yv,.slice ya ylen ycap,.string ynm] 26 (0,0))∧Burning fuel (0 + j) f'∧
     (0 < f'->Run D M M' (fun u v=>(False)\/ ∃i,i < j/\ts[i]?=some u/\us[i]?=some v))) (fun i _=>ylen - (intOf i).toNat)
   case atStart=>exact ⟨0,M,fuel - 1,Nat.zero_le _,rfl,HM0.out,FX.out,BX.out,BY.out,Burning.start (by omega),fun _=>(Run.refl D M).mono fun _ _ h=>by rcases h with h | ⟨i,hi,_⟩;exact h.elim;omega⟩
   case round=>
    obtain ⟨j,M1,f1,hj,rfl,hM1,hF1,hBX,hBY,hb1,hR1⟩:=hrel;have HM1:=hid hM1;have HF:=hid hF1;have BX:=hid hBX;have BY:=hid hBY;have HB:=hid hb1;have HR:=hid hR1;clear hM1 hF1 hBX hBY hb1 hR1;have qx:=zA BX.out;have qy:=zA BY.out;have szx:=bl (qx 0);have szy:=bl (qy 0);dsimp only at szx szy;by_cases hlt:j < ylen
    ·obtain ⟨X,b1,o1,gX,rfl,e1⟩:=XE.out.elem (show j < xs.length by rw [LX.out];omega)
     obtain ⟨Y,b2,o2,gY,rfl,e2⟩:=YE.out.elem (show j < ys.length by rw [LY.out];omega);have e1:=e1.keep HF.out;have e2:=e2.keep HF.out;obtain ⟨_,a0,a1,a2,a3,a4,a5⟩:=e1;obtain ⟨_,d0,d1,d2,d3,d4,d5⟩:=e2;have hb1:b1 < wr.heap.size:=World.block_lt_of_cell? _ _ a0;have hb2:b2 < wr.heap.size:=World.block_lt_of_cell? _ _ d5;have hle:(j:Int) < ylen:=by omega
     have hlex:(j:Int) < xlen:=by omega
     have hley:(j:Int) < ylen:=by omega
     have GX:=hid gX;have GY:=hid gY;clear gX gY;obtain ⟨t,ht⟩: ∃t,ts[j]?=some t:=⟨ts[j]'(by rw [LT.out];omega),by simp⟩;obtain ⟨u,hu⟩: ∃u,us[j]?=some u:=⟨us[j]'(by rw [LU.out];omega),by simp⟩;have T:=hid ht;have U:=hid hu;clear ht hu;have LO:=hid (show -90000000000000000<=f1 by have:=HB.out.low;have:=HB.out.less;omega);have HI:=hid (show f1<=F by have:=HB.out.less;omega);go_wp2_with fail
     refine zP 11 (by kernel_rfl) ?_;simp only [List.take_succ_cons,List.take_zero,List.drop_succ_cons,List.drop_zero]
     repeat still_step
     refine wpStill_nil ?_;go_wp2_with fail
     refine (IH.out t u X Y _ B n M1 f1 HI.out (by omega) LO.out (HM1.out.keep (Fr.refl _ _).drew) (HD.out.keep HF.out.drew) ((RX.out j X t GX.out T.out).keep HF.out.drew) ((RY.out j Y u GY.out U.out).keep HF.out.drew)).mono ?_;rintro e w2 ⟨rfl,M2,f2,hM2,hF2,hB2,hR2⟩;have HM2:=hid hM2;have HF2:=hid hF2;have HB2:=hid hB2;have HR2:=hid hR2;clear hM2 hF2 hB2 hR2;go_wp2;go_roundw
     case rel=>
      refine ⟨j + 1,M2,f2,by omega,by go_num,HM2.out,HF.out.drew.trans HF2.out,HF2.out.heap (NM.out _ (Nat.le_refl _)) BX.out,HF2.out.heap (NM.out _ (Nat.le_succ _)) BY.out,HB.out.step (by omega) HB2.out,fun h0=> ?_⟩;refine ((HR.out (by have:=HB2.out.less;omega)).step (HR2.out h0)).mono fun a b hab=> ?_
      rcases hab with hab | ⟨i,hi,h1,h2⟩
      ·exact .inl (.inl hab)
      ·by_cases hij:i=j
       ·subst hij
        rw [T.out] at h1;rw [U.out] at h2;exact .inr ⟨(Option.some.inj h1).symm,(Option.some.inj h2).symm⟩
       ·exact .inl (.inr ⟨i,by omega,h1,h2⟩)
     case measure=>simp [intOf];omega
    ·have hge: ¬(j:Int) < ylen:=by omega
     have hjl:j=ylen:=by omega
     go_wp2;refine bodyPost_ret (v:= .tuple #[]) (results_none rfl _ _ _) rfl ?_
     first
     |rename Fin 1=>tg
      refine ⟨rfl,M1,f1,HM1.out,HF.out,HB.out.done (by omega) (by omega),fun h0=>yX (HR.out h0) (fun _ h=>by omega) (fun h=>absurd h hg) (fun i a b ha hb=> .inr ⟨i,?_,ha,hb⟩)⟩
     |rename Fin 2=>tg
      refine ⟨rfl,M1,f1,HM1.out,HF.out,HB.out.done (by omega) (by omega),fun h0=>yX (HR.out h0) (fun h=>absurd h hf) (fun _ h=>by omega) (fun i a b ha hb=> .inr ⟨i,?_,ha,hb⟩)⟩
     |refine ⟨rfl,M1,f1,HM1.out,HF.out,HB.out.done (by omega) (by omega),fun h0=>yX (HR.out h0) (fun _ h=>by omega) (fun _ h=>by omega) (fun i a b ha hb=> .inr ⟨i,?_,ha,hb⟩)⟩
     have h1:=(List.getElem?_eq_some_iff.1 ha).1;have h2:=(List.getElem?_eq_some_iff.1 hb).1;have:=LT.out;have:=LU.out;omega
  ·first
   |rename Fin 1=>tg
    go_loopw [223] (fun i wr=> ∃(j:Nat) (M':Mg) (f':Int),j≤xlen∧i= .int .i64 j∧MRep ar dl wr B n M' f' (.slice da dl dc)∧Fr B.M w wr∧wr.heap[w.heap.size]?=some (.cells #[.int .i64 1,.int .i64 xn,.int .i64 xc,.bool xv,.slice xa xlen xcap,.string xnm] 26 (0,0))∧wr.heap[w.heap.size + 1]?=some (.cells #[.int .i64 yk,.int .i64 yn,.int .i64 yc,.bool yv,.slice ya ylen ycap,.string ynm] 26 (0,0))∧Burning fuel (0 + j) f'∧
     (0 < f'->Run D M M' (fun u v=>(False)\/ ∃i,i < j/\ts[i]?=some u/\us[i]?=some v))) (fun i _=>xlen - (intOf i).toNat)
   |rename Fin 2=>tg
    go_loopw [223] (fun i wr=> ∃(j:Nat) (M':Mg) (f':Int),j≤xlen∧i= .int .i64 j∧MRep ar dl wr B n M' f' (.slice da dl dc)∧Fr B.M w wr∧wr.heap[w.heap.size]?=some (.cells #[.int .i64 xk,.int .i64 xn,.int .i64 xc,.bool xv,.slice xa xlen xcap,.string xnm] 26 (0,0))∧wr.heap[w.heap.size + 1]?=some (.cells #[.int .i64 1,.int .i64 yn,.int .i64 yc,.bool yv,.slice ya ylen ycap,.string ynm] 26 (0,0))∧Burning fuel (0 + j) f'∧
     (0 < f'->Run D M M' (fun u v=>(False)\/ ∃i,i < j/\ts[i]?=some u/\us[i]?=some v))) (fun i _=>xlen - (intOf i).toNat)
   |go_loopw [223] (fun i wr=> ∃(j:Nat) (M':Mg) (f':Int),j≤xlen∧i= .int .i64 j∧MRep ar dl wr B n M' f' (.slice da dl dc)∧Fr B.M w wr∧wr.heap[w.heap.size]?=some (.cells #[.int .i64 1,.int .i64 xn,.int .i64 xc,.bool xv,.slice xa xlen xcap,.string xnm] 26 (0,0))∧wr.heap[w.heap.size + 1]?=some (.cells #[.int .i64 1,.int .i64 yn,.int .i64 yc,.bool yv,.slice ya ylen ycap,.string ynm] 26 (0,0))∧Burning fuel (0 + j) f'∧
     (0 < f'->Run D M M' (fun u v=>(False)\/ ∃i,i < j/\ts[i]?=some u/\us[i]?=some v))) (fun i _=>xlen - (intOf i).toNat)
   case atStart=>exact ⟨0,M,fuel - 1,Nat.zero_le _,rfl,HM0.out,FX.out,BX.out,BY.out,Burning.start (by omega),fun _=>(Run.refl D M).mono fun _ _ h=>by rcases h with h | ⟨i,hi,_⟩;exact h.elim;omega⟩
   case round=>
    obtain ⟨j,M1,f1,hj,rfl,hM1,hF1,hBX,hBY,hb1,hR1⟩:=hrel;have HM1:=hid hM1;have HF:=hid hF1;have BX:=hid hBX;have BY:=hid hBY;have HB:=hid hb1;have HR:=hid hR1;clear hM1 hF1 hBX hBY hb1 hR1;have qx:=zA BX.out;have qy:=zA BY.out;have szx:=bl (qx 0);have szy:=bl (qy 0);dsimp only at szx szy;by_cases hlt:j < xlen
    ·obtain ⟨X,b1,o1,gX,rfl,e1⟩:=XE.out.elem (show j < xs.length by rw [LX.out];omega)
     obtain ⟨Y,b2,o2,gY,rfl,e2⟩:=YE.out.elem (show j < ys.length by rw [LY.out];omega);have e1:=e1.keep HF.out;have e2:=e2.keep HF.out;obtain ⟨_,a0,a1,a2,a3,a4,a5⟩:=e1;obtain ⟨_,d0,d1,d2,d3,d4,d5⟩:=e2;have hb1:b1 < wr.heap.size:=World.block_lt_of_cell? _ _ a0;have hb2:b2 < wr.heap.size:=World.block_lt_of_cell? _ _ d5;have hle:(j:Int) < xlen:=by omega
     have hlex:(j:Int) < xlen:=by omega
     have hley:(j:Int) < ylen:=by omega
     have GX:=hid gX;have GY:=hid gY;clear gX gY;obtain ⟨t,ht⟩: ∃t,ts[j]?=some t:=⟨ts[j]'(by rw [LT.out];omega),by simp⟩;obtain ⟨u,hu⟩: ∃u,us[j]?=some u:=⟨us[j]'(by rw [LU.out];omega),by simp⟩;have T:=hid ht;have U:=hid hu;clear ht hu;have LO:=hid (show -90000000000000000<=f1 by have:=HB.out.low;have:=HB.out.less;omega);have HI:=hid (show f1<=F by have:=HB.out.less;omega);go_wp2_with fail
     refine zP 11 (by kernel_rfl) ?_;simp only [List.take_succ_cons,List.take_zero,List.drop_succ_cons,List.drop_zero]
     repeat still_step
     refine wpStill_nil ?_;go_wp2_with fail
     refine (IH.out t u X Y _ B n M1 f1 HI.out (by omega) LO.out (HM1.out.keep (Fr.refl _ _).drew) (HD.out.keep HF.out.drew) ((RX.out j X t GX.out T.out).keep HF.out.drew) ((RY.out j Y u GY.out U.out).keep HF.out.drew)).mono ?_;rintro e w2 ⟨rfl,M2,f2,hM2,hF2,hB2,hR2⟩;have HM2:=hid hM2;have HF2:=hid hF2;have HB2:=hid hB2;have HR2:=hid hR2;clear hM2 hF2 hB2 hR2;go_wp2;go_roundw
     case rel=>
      refine ⟨j + 1,M2,f2,by omega,by go_num,HM2.out,HF.out.drew.trans HF2.out,HF2.out.heap (NM.out _ (Nat.le_refl _)) BX.out,HF2.out.heap (NM.out _ (Nat.le_succ _)) BY.out,HB.out.step (by omega) HB2.out,fun h0=> ?_⟩;refine ((HR.out (by have:=HB2.out.less;omega)).step (HR2.out h0)).mono fun a b hab=> ?_
      rcases hab with hab | ⟨i,hi,h1,h2⟩
      ·exact .inl (.inl hab)
      ·by_cases hij:i=j
       ·subst hij
        rw [T.out] at h1;rw [U.out] at h2;exact .inr ⟨(Option.some.inj h1).symm,(Option.some.inj h2).symm⟩
       ·exact .inl (.inr ⟨i,by omega,h1,h2⟩)
     case measure=>simp [intOf];omega
    ·have hge: ¬(j:Int) < xlen:=by omega
     have hjl:j=xlen:=by omega
     go_wp2;refine bodyPost_ret (v:= .tuple #[]) (results_none rfl _ _ _) rfl ?_
     first
     |rename Fin 1=>tg
      refine ⟨rfl,M1,f1,HM1.out,HF.out,HB.out.done (by omega) (by omega),fun h0=>yX (HR.out h0) (fun _ h=>by omega) (fun h=>absurd h hg) (fun i a b ha hb=> .inr ⟨i,?_,ha,hb⟩)⟩
     |rename Fin 2=>tg
      refine ⟨rfl,M1,f1,HM1.out,HF.out,HB.out.done (by omega) (by omega),fun h0=>yX (HR.out h0) (fun h=>absurd h hf) (fun _ h=>by omega) (fun i a b ha hb=> .inr ⟨i,?_,ha,hb⟩)⟩
     |refine ⟨rfl,M1,f1,HM1.out,HF.out,HB.out.done (by omega) (by omega),fun h0=>yX (HR.out h0) (fun _ h=>by omega) (fun _ h=>by omega) (fun i a b ha hb=> .inr ⟨i,?_,ha,hb⟩)⟩
     have h1:=(List.getElem?_eq_some_iff.1 ha).1;have h2:=(List.getElem?_eq_some_iff.1 hb).1;have:=LT.out;have:=LU.out;omega
end
end Go.Proofs.YtpekidjfbinekaaGreatDoor
