/- W15, W16 -/
import Derived.Test.YtpekidjfbinekaaGreatDoorA28
set_option maxRecDepth 100000
set_option maxHeartbeats 60000000
set_option linter.all false
namespace Go.Proofs.YtpekidjfbinekaaGreatDoor
open Go.RowKit Uni
section
variable {da:Option Addr}{dl dc:Nat}{D:zE}{ar:Nat->Nat}
theorem unify_own:
 (∀(hD:xF dl ar D) (hDk:zZ D) (N:Nat) (ih:wL da dl dc D ar N) (f g:Lab) (ts us:List Tm) (x y:TyV) (m:Uni.Mode) (w:World) (B:UB) (n:Nat) (st:St) (pv:Value) (r:Res) (hE:UEnv da dl dc D ar w B n st pv) (hx:XIn ar dl w B n x (.node f ts)) (hy:XIn ar dl w B n y (.node g us)) (hm:(zU m==0)=false) (hm0:(zU m !=0)=true) (hd:zT D (.node f ts) (.node g us)=false) (hf:f.kind=1) (hg:g.kind=3) (hr:(if f=g∧ts.length=us.length then seqS (fun s a b=>zI D N s a b (inner m)) st ts us else some .fail)=some r),
  Calls Tryz.prog 35 #[.pointer (some ⟨B.u,0,none⟩),x.val,y.val,.int .i64 (zU m)] w (xK B n (.slice da dl dc) pv w r))/\
 (∀(hD:xF dl ar D) (hDk:zZ D) (N:Nat) (ih:wL da dl dc D ar N) (f g:Lab) (ts us:List Tm) (x y:TyV) (m:Uni.Mode) (w:World) (B:UB) (n:Nat) (st:St) (pv:Value) (r:Res) (hE:UEnv da dl dc D ar w B n st pv) (hx:XIn ar dl w B n x (.node f ts)) (hy:XIn ar dl w B n y (.node g us)) (hm:(zU m==0)=false) (hm0:(zU m !=0)=true) (hd:zT D (.node f ts) (.node g us)=false) (hf:f.kind=3) (hg:g.kind=1) (hr:(if f=g∧ts.length=us.length then seqS (fun s a b=>zI D N s a b (inner m)) st ts us else some .fail)=some r),
  Calls Tryz.prog 35 #[.pointer (some ⟨B.u,0,none⟩),x.val,y.val,.int .i64 (zU m)] w (xK B n (.slice da dl dc) pv w r)):=by
 refine ⟨@fun hD hDk N ih f g ts us x y m w B n st pv r hE hx hy hm hm0 hd hf hg hr=>have tg:Fin 1:=0;?_,@fun hD hDk N ih f g ts us x y m w B n st pv r hE hx hy hm hm0 hd hf hg hr=>have tg:Fin 2:=0;?_⟩
 all_goals
  have NM:=hid (fun b (h:w.heap.size<=b) (hb:B.M b)=>(Nat.not_lt.2 h (hE.M b hb):False));obtain ⟨xs,fx,nx,rx,sx⟩:=hx.r.flat;obtain ⟨ys,fy,ny,ry,sy⟩:=hy.r.flat;have sx:Shape x f xs:=sx;have sy:Shape y g ys:=sy;have kx:x.k=f.kind:=sx.k;have ky:y.k=g.kind:=sy.k;have x2:(x.k==2)=false:=by have:=sx.k2;simp;omega
  have y2:(y.k==2)=false:=by have:=sy.k2;simp;omega
  obtain ⟨ja,cj,ka,ck,hu,_⟩:=hE.U.u;have szu:=hE.U.size.1;have HUU:=hid hu;have u4:=zA hu 4;have v4:=zC hu 4;have u0:=zA hu 0;have DC:=hid (fun (w':World) (f':Fr F0 w w')=>xY da dl dc D ar hDk x y f ts g us w' B n st pv false (hE.keep f').U (hE.keep f').d (hx.keep f'.sub).r (hy.keep f'.sub).r hx.g hy.g (hE.keep f').M)
  first
  |rename Fin 1=>tg
   have LI:=hid (fun (w':World)=>yG y false w' (by rw [ky];simp;omega))
  |have LJ:=hid (fun (w':World)=>yG x false w' (by rw [kx];simp;omega))
  have AL:=hid (fun (w':World) (f':Fr F0 w w')=>alike_any x y (.node f ts) (.node g us) w' B.M (hx.keep f'.sub).r (hy.keep f'.sub).r)
  have AA:=hid (fun (w':World) (f':Fr F0 w w') (hfg:f=g∧ts.length=us.length)=>all_any hD N ih ts us xs ys x.a y.a x.len x.cap y.len y.cap (inner m) w' B n st pv r (by rw [if_pos hfg] at hr;exact hr) (hE.keep f')
   (fx.elems.keep f'.sub) fx.len (by rw [<-fx.len];exact nx) (fy.elems.keep f'.sub) fy.len (by rw [<-fy.len];exact ny) (by rw [<-fx.len,<-fy.len];have:(kids (.node f ts)).length=(kids (.node g us)).length:=hfg.2;omega) fx.bound.2.1
   (fun i z t hz ht=>(⟨rx i z t hz ht,hx.g.kid (List.mem_of_getElem? ht),hx.h.kid (List.mem_of_getElem? ht)⟩:XIn ar dl w B n z t).keep f'.sub)
   (fun i z t hz ht=>(⟨ry i z t hz ht,hy.g.kid (List.mem_of_getElem? ht),hy.h.kid (List.mem_of_getElem? ht)⟩:XIn ar dl w B n z t).keep f'.sub))
  have HR:=hid hr;clear hr;rw [hd] at DC
  first
  |rename Fin 1=>tg
   have x1:x.k=1:=by rw [kx,hf];rfl
   have y1:y.k=3:=by rw [ky,hg];rfl
  |have x1:x.k=3:=by rw [kx,hf];rfl
   have y1:y.k=1:=by rw [ky,hg];rfl
  clear hd hf hg;have HE:=hid hE;have HX:=hid hx;have HY:=hid hy;have IH:=hid ih;have KX:=hid kx;have KY:=hid ky;have HDD:=hid hD;clear hE hx hy hD ih hu kx ky hDk fx nx rx sx fy ny ry sy;obtain ⟨xk,xn,xc,xv,xa,xlen,xcap,xnm⟩:=x;obtain ⟨yk,yn,yc,yv,ya,ylen,ycap,ynm⟩:=y;unfold TyV.val at *;dsimp only at *;have FX:=hid (((Fr.refl F0 w).alloc (.cells #[.int .i64 xk,.int .i64 xn,.int .i64 xc,.bool xv,.slice xa xlen xcap,.string xnm] 26)).alloc (.cells #[.int .i64 yk,.int .i64 yn,.int .i64 yc,.bool yv,.slice ya ylen ycap,.string ynm] 26))
  have BX:=hid ((Below.heap_alloc _ _ _ (by simp)).trans (heap_alloc_new w (.cells #[.int .i64 xk,.int .i64 xn,.int .i64 xc,.bool xv,.slice xa xlen xcap,.string xnm] 26)):((w.alloc (.cells #[.int .i64 xk,.int .i64 xn,.int .i64 xc,.bool xv,.slice xa xlen xcap,.string xnm] 26)).alloc (.cells #[.int .i64 yk,.int .i64 yn,.int .i64 yc,.bool yv,.slice ya ylen ycap,.string ynm] 26)).heap[w.heap.size]?=some (.cells #[.int .i64 xk,.int .i64 xn,.int .i64 xc,.bool xv,.slice xa xlen xcap,.string xnm] 26 (0,0)))
  have BY:=hid (zS w (.cells #[.int .i64 xk,.int .i64 xn,.int .i64 xc,.bool xv,.slice xa xlen xcap,.string xnm] 26) (.cells #[.int .i64 yk,.int .i64 yn,.int .i64 yc,.bool yv,.slice ya ylen ycap,.string ynm] 26));have SZ:=hid (show w.heap.size + 2<=((w.alloc (.cells #[.int .i64 xk,.int .i64 xn,.int .i64 xc,.bool xv,.slice xa xlen xcap,.string xnm] 26)).alloc (.cells #[.int .i64 yk,.int .i64 yn,.int .i64 yc,.bool yv,.slice ya ylen ycap,.string ynm] 26)).heap.size by simp)
  subst x1 y1
  cases hs1:(zU m==1) with
  |true=>
   by_cases hal:f=g/\ts.length=us.length
   ·have HA:=hid (show xQ (.node f ts) (.node g us)=true from decide_eq_true hal)
    have HAL:=hid hal;clear hal HR;go_enter Tryz.func35,Tryz.ntmps35;go_wp2_with fail
    refine (DC.out _ FX.out).mono ?_;rintro e w1 ⟨rfl,hf1⟩;have BX1:=hid (hf1.heap (b:=w.heap.size) id BX.out);have BY1:=hid (hf1.heap (b:=w.heap.size + 1) id BY.out);have FX1:=hid (FX.out.trans hf1);have SZ1:=hid (Nat.le_trans SZ.out hf1.size);clear BX BY FX SZ hf1
    try clear qx qy sz u4 v4 u0 szu
    have FX:=FX1;have BX:=BX1;have BY:=BY1;have SZ:=SZ1;clear FX1 BX1 BY1 SZ1;have qx:=zA BX.out;have qy:=zA BY.out;have sz:=SZ.out;have u4:=zA (FX.out.heap (b:=B.u) id HUU.out) 4;have v4:=zC (FX.out.heap (b:=B.u) id HUU.out) 4;have u0:=zA (FX.out.heap (b:=B.u) id HUU.out) 0;have szu:=World.block_lt_of_cell? _ _ u4;go_wp2_with fail
    first
    |rename Fin 1=>tg
     refine (LI.out _).mono ?_
    |refine (LJ.out _).mono ?_
    rintro e w2 ⟨rfl,hf1⟩;have BX1:=hid (hf1.heap (b:=w.heap.size) id BX.out);have BY1:=hid (hf1.heap (b:=w.heap.size + 1) id BY.out);have FX1:=hid (FX.out.trans hf1);have SZ1:=hid (Nat.le_trans SZ.out hf1.size);clear BX BY FX SZ hf1
    try clear qx qy sz u4 v4 u0 szu
    have FX:=FX1;have BX:=BX1;have BY:=BY1;have SZ:=SZ1;clear FX1 BX1 BY1 SZ1;have qx:=zA BX.out;have qy:=zA BY.out;have sz:=SZ.out;have u4:=zA (FX.out.heap (b:=B.u) id HUU.out) 4;have v4:=zC (FX.out.heap (b:=B.u) id HUU.out) 4;have u0:=zA (FX.out.heap (b:=B.u) id HUU.out) 0;have szu:=World.block_lt_of_cell? _ _ u4;go_wp2;refine zG (Fr B.M w2) [(0,true),(1,true),(2,false),(3,false),(4,true),(5,true),(6,true),(7,true),(8,true),(9,false),(10,false),(11,false),(12,false),(13,false)] [13] yE (by kernel_rfl) (by kernel_rfl) (by kernel_rfl) (by decide) ?_
    clear qx qy sz u4 v4 u0 szu
    iterate 2
     (refine zH _ rfl (Fr.refl _ _).drew (fun w' hS=>by
      have q0:=zA (hS.heap (b:=w.heap.size) (NM.out _ (Nat.le_refl _)) BX.out);have q1:=zA (hS.heap (b:=w.heap.size + 1) (NM.out _ (Nat.le_succ _)) BY.out);clear hS;go_simp;rfl) ?_)
    go_simp;refine zB rfl ?_;go_wp2_with fail
    refine (AL.out _ FX.out.drew).mono ?_;rintro e w7 ⟨rfl,hf3⟩;rw [HA.out];have HF3:=hid hf3;clear hf3;have S3:=hid ((Fr.refl B.M w2).drew.trans HF3.out.sub);go_wp2;refine And.intro (fun _=>S3.out) ?_;refine zB rfl ?_;go_wp2;refine And.intro (fun _=>S3.out) ?_
    iterate 5
     (refine zH _ rfl S3.out (fun w' hS=>by
      have q0:=zA (hS.heap (b:=w.heap.size) (NM.out _ (Nat.le_refl _)) BX.out);have q1:=zA (hS.heap (b:=w.heap.size + 1) (NM.out _ (Nat.le_succ _)) BY.out);clear hS;go_simp;rfl) ?_)
    go_simp;refine zB rfl ?_;go_wp2;refine And.intro (fun _=>S3.out) ?_;refine zB rfl ?_;go_wp2_with fail
    refine (inner_any m _).mono ?_;rintro e w8 ⟨rfl,hf4⟩;have HF4:=hid hf4;clear hf4;have S4:=hid (S3.out.trans HF4.out.sub);have F4:=hid (FX.out.drew.trans (HF3.out.trans HF4.out));go_wp2;refine And.intro (fun _=>S4.out) ?_;refine zB rfl ?_;go_wp2_with fail
    refine (AA.out _ F4.out HAL.out).mono ?_;rintro e w9 hp2;have FR:=hid hp2.1;obtain ⟨b,rfl,HP⟩:=hp2.bool F4.out.sub;clear hp2;have S5:=hid (S4.out.trans FR.out);go_wp2;refine And.intro (fun _=>S5.out) ?_;refine zB rfl ?_;go_wp2;refine And.intro (fun _=>S5.out) ?_;refine zB rfl ?_;go_wp2;refine And.intro (fun h=>absurd h (by decide)) ?_;refine zO (NoPanic.normal ?_);go_wp2;go_ret;exact HP.out
   ·have HA:=hid (show xQ (.node f ts) (.node g us)=false from decide_eq_false hal)
    have hr:r= .fail:=by have:=HR.out;rw [if_neg hal] at this;exact (Option.some.inj this).symm
    subst hr;clear hal HR AA;go_enter Tryz.func35,Tryz.ntmps35;go_wp2_with fail
    refine (DC.out _ FX.out).mono ?_;rintro e w1 ⟨rfl,hf1⟩;have BX1:=hid (hf1.heap (b:=w.heap.size) id BX.out);have BY1:=hid (hf1.heap (b:=w.heap.size + 1) id BY.out);have FX1:=hid (FX.out.trans hf1);have SZ1:=hid (Nat.le_trans SZ.out hf1.size);clear BX BY FX SZ hf1
    try clear qx qy sz u4 v4 u0 szu
    have FX:=FX1;have BX:=BX1;have BY:=BY1;have SZ:=SZ1;clear FX1 BX1 BY1 SZ1;have qx:=zA BX.out;have qy:=zA BY.out;have sz:=SZ.out;have u4:=zA (FX.out.heap (b:=B.u) id HUU.out) 4;have v4:=zC (FX.out.heap (b:=B.u) id HUU.out) 4;have u0:=zA (FX.out.heap (b:=B.u) id HUU.out) 0;have szu:=World.block_lt_of_cell? _ _ u4;go_wp2_with fail
    first
    |rename Fin 1=>tg
     refine (LI.out _).mono ?_
    |refine (LJ.out _).mono ?_
    rintro e w2 ⟨rfl,hf1⟩;have BX1:=hid (hf1.heap (b:=w.heap.size) id BX.out);have BY1:=hid (hf1.heap (b:=w.heap.size + 1) id BY.out);have FX1:=hid (FX.out.trans hf1);have SZ1:=hid (Nat.le_trans SZ.out hf1.size);clear BX BY FX SZ hf1
    try clear qx qy sz u4 v4 u0 szu
    have FX:=FX1;have BX:=BX1;have BY:=BY1;have SZ:=SZ1;clear FX1 BX1 BY1 SZ1;have qx:=zA BX.out;have qy:=zA BY.out;have sz:=SZ.out;have u4:=zA (FX.out.heap (b:=B.u) id HUU.out) 4;have v4:=zC (FX.out.heap (b:=B.u) id HUU.out) 4;have u0:=zA (FX.out.heap (b:=B.u) id HUU.out) 0;have szu:=World.block_lt_of_cell? _ _ u4;go_wp2;refine zG (Fr B.M w2) [(0,true),(1,true),(2,false),(3,false),(4,true),(5,true),(6,true),(7,true),(8,true),(9,false),(10,false),(11,false),(12,false),(13,false)] [13] yE (by kernel_rfl) (by kernel_rfl) (by kernel_rfl) (by decide) ?_
    clear qx qy sz u4 v4 u0 szu
    iterate 2
     (refine zH _ rfl (Fr.refl _ _).drew (fun w' hS=>by
      have q0:=zA (hS.heap (b:=w.heap.size) (NM.out _ (Nat.le_refl _)) BX.out);have q1:=zA (hS.heap (b:=w.heap.size + 1) (NM.out _ (Nat.le_succ _)) BY.out);clear hS;go_simp;rfl) ?_)
    go_simp;refine zB rfl ?_;go_wp2_with fail
    refine (AL.out _ FX.out.drew).mono ?_;rintro e w7 ⟨rfl,hf3⟩;rw [HA.out];have HF3:=hid hf3;clear hf3;have S3:=hid ((Fr.refl B.M w2).drew.trans HF3.out.sub);go_wp2;refine And.intro (fun _=>S3.out) ?_;refine zB rfl ?_;go_wp2;refine And.intro (fun _=>S3.out) ?_
    iterate 5
     (refine zH _ rfl S3.out (fun w' hS=>by
      have q0:=zA (hS.heap (b:=w.heap.size) (NM.out _ (Nat.le_refl _)) BX.out);have q1:=zA (hS.heap (b:=w.heap.size + 1) (NM.out _ (Nat.le_succ _)) BY.out);clear hS;go_simp;rfl) ?_)
    go_simp;refine zB rfl ?_;go_wp2;refine And.intro (fun _=>S3.out) ?_;refine zB rfl ?_;go_wp2;refine And.intro (fun _=>S3.out) ?_;refine zB rfl ?_;go_wp2;refine And.intro (fun _=>S3.out) ?_;refine zB rfl ?_;go_wp2;refine And.intro (fun _=>S3.out) ?_;refine zB rfl ?_;go_wp2;refine And.intro (fun h=>absurd h (by decide)) ?_;refine zO (NoPanic.normal ?_);go_wp2;go_ret;exact ⟨(FX.out.drew.trans HF3.out).sub,rfl,st,HE.out.U.keep (FX.out.drew.trans HF3.out)⟩
  |false=>
   by_cases hal:f=g/\ts.length=us.length
   ·have HA:=hid (show xQ (.node f ts) (.node g us)=true from decide_eq_true hal)
    have HAL:=hid hal;clear hal HR;go_enter Tryz.func35,Tryz.ntmps35;go_wp2_with fail
    refine (DC.out _ FX.out).mono ?_;rintro e w1 ⟨rfl,hf1⟩;have BX1:=hid (hf1.heap (b:=w.heap.size) id BX.out);have BY1:=hid (hf1.heap (b:=w.heap.size + 1) id BY.out);have FX1:=hid (FX.out.trans hf1);have SZ1:=hid (Nat.le_trans SZ.out hf1.size);clear BX BY FX SZ hf1
    try clear qx qy sz u4 v4 u0 szu
    have FX:=FX1;have BX:=BX1;have BY:=BY1;have SZ:=SZ1;clear FX1 BX1 BY1 SZ1;have qx:=zA BX.out;have qy:=zA BY.out;have sz:=SZ.out;have u4:=zA (FX.out.heap (b:=B.u) id HUU.out) 4;have v4:=zC (FX.out.heap (b:=B.u) id HUU.out) 4;have u0:=zA (FX.out.heap (b:=B.u) id HUU.out) 0;have szu:=World.block_lt_of_cell? _ _ u4;go_wp2_with fail
    first
    |rename Fin 1=>tg
     refine (LI.out _).mono ?_
    |refine (LJ.out _).mono ?_
    rintro e w2 ⟨rfl,hf1⟩;have BX1:=hid (hf1.heap (b:=w.heap.size) id BX.out);have BY1:=hid (hf1.heap (b:=w.heap.size + 1) id BY.out);have FX1:=hid (FX.out.trans hf1);have SZ1:=hid (Nat.le_trans SZ.out hf1.size);clear BX BY FX SZ hf1
    try clear qx qy sz u4 v4 u0 szu
    have FX:=FX1;have BX:=BX1;have BY:=BY1;have SZ:=SZ1;clear FX1 BX1 BY1 SZ1;have qx:=zA BX.out;have qy:=zA BY.out;have sz:=SZ.out;have u4:=zA (FX.out.heap (b:=B.u) id HUU.out) 4;have v4:=zC (FX.out.heap (b:=B.u) id HUU.out) 4;have u0:=zA (FX.out.heap (b:=B.u) id HUU.out) 0;have szu:=World.block_lt_of_cell? _ _ u4;go_wp2;refine zG (Fr B.M w2) [(0,true),(1,true),(2,false),(3,false),(4,true),(5,true),(6,true),(7,true),(8,true),(9,false),(10,false),(11,false),(12,false),(13,false)] [13] yE (by kernel_rfl) (by kernel_rfl) (by kernel_rfl) (by decide) ?_
    clear qx qy sz u4 v4 u0 szu
    iterate 2
     (refine zH _ rfl (Fr.refl _ _).drew (fun w' hS=>by
      have q0:=zA (hS.heap (b:=w.heap.size) (NM.out _ (Nat.le_refl _)) BX.out);have q1:=zA (hS.heap (b:=w.heap.size + 1) (NM.out _ (Nat.le_succ _)) BY.out);clear hS;go_simp;rfl) ?_)
    go_simp;refine zB rfl ?_;go_wp2_with fail
    refine (AL.out _ FX.out.drew).mono ?_;rintro e w7 ⟨rfl,hf3⟩;rw [HA.out];have HF3:=hid hf3;clear hf3;have S3:=hid ((Fr.refl B.M w2).drew.trans HF3.out.sub);go_wp2;refine And.intro (fun _=>S3.out) ?_;refine zB rfl ?_;go_wp2;refine And.intro (fun _=>S3.out) ?_
    iterate 5
     (refine zH _ rfl S3.out (fun w' hS=>by
      have q0:=zA (hS.heap (b:=w.heap.size) (NM.out _ (Nat.le_refl _)) BX.out);have q1:=zA (hS.heap (b:=w.heap.size + 1) (NM.out _ (Nat.le_succ _)) BY.out);clear hS;go_simp;rfl) ?_)
    go_simp;refine zB rfl ?_;go_wp2;refine And.intro (fun _=>S3.out) ?_;refine zB rfl ?_;go_wp2_with fail
    refine (inner_any m _).mono ?_;rintro e w8 ⟨rfl,hf4⟩;have HF4:=hid hf4;clear hf4;have S4:=hid (S3.out.trans HF4.out.sub);have F4:=hid (FX.out.drew.trans (HF3.out.trans HF4.out));go_wp2;refine And.intro (fun _=>S4.out) ?_;refine zB rfl ?_;go_wp2_with fail
    refine (AA.out _ F4.out HAL.out).mono ?_;rintro e w9 hp2;have FR:=hid hp2.1;obtain ⟨b,rfl,HP⟩:=hp2.bool F4.out.sub;clear hp2;have S5:=hid (S4.out.trans FR.out);go_wp2;refine And.intro (fun _=>S5.out) ?_;refine zB rfl ?_;go_wp2;refine And.intro (fun _=>S5.out) ?_;refine zB rfl ?_;go_wp2;refine And.intro (fun h=>absurd h (by decide)) ?_;refine zO (NoPanic.normal ?_);go_wp2;go_ret;exact HP.out
   ·have HA:=hid (show xQ (.node f ts) (.node g us)=false from decide_eq_false hal)
    have hr:r= .fail:=by have:=HR.out;rw [if_neg hal] at this;exact (Option.some.inj this).symm
    subst hr;clear hal HR AA;go_enter Tryz.func35,Tryz.ntmps35;go_wp2_with fail
    refine (DC.out _ FX.out).mono ?_;rintro e w1 ⟨rfl,hf1⟩;have BX1:=hid (hf1.heap (b:=w.heap.size) id BX.out);have BY1:=hid (hf1.heap (b:=w.heap.size + 1) id BY.out);have FX1:=hid (FX.out.trans hf1);have SZ1:=hid (Nat.le_trans SZ.out hf1.size);clear BX BY FX SZ hf1
    try clear qx qy sz u4 v4 u0 szu
    have FX:=FX1;have BX:=BX1;have BY:=BY1;have SZ:=SZ1;clear FX1 BX1 BY1 SZ1;have qx:=zA BX.out;have qy:=zA BY.out;have sz:=SZ.out;have u4:=zA (FX.out.heap (b:=B.u) id HUU.out) 4;have v4:=zC (FX.out.heap (b:=B.u) id HUU.out) 4;have u0:=zA (FX.out.heap (b:=B.u) id HUU.out) 0;have szu:=World.block_lt_of_cell? _ _ u4;go_wp2_with fail
    first
    |rename Fin 1=>tg
     refine (LI.out _).mono ?_
    |refine (LJ.out _).mono ?_
    rintro e w2 ⟨rfl,hf1⟩;have BX1:=hid (hf1.heap (b:=w.heap.size) id BX.out);have BY1:=hid (hf1.heap (b:=w.heap.size + 1) id BY.out);have FX1:=hid (FX.out.trans hf1);have SZ1:=hid (Nat.le_trans SZ.out hf1.size);clear BX BY FX SZ hf1
    try clear qx qy sz u4 v4 u0 szu
    have FX:=FX1;have BX:=BX1;have BY:=BY1;have SZ:=SZ1;clear FX1 BX1 BY1 SZ1;have qx:=zA BX.out;have qy:=zA BY.out;have sz:=SZ.out;have u4:=zA (FX.out.heap (b:=B.u) id HUU.out) 4;have v4:=zC (FX.out.heap (b:=B.u) id HUU.out) 4;have u0:=zA (FX.out.heap (b:=B.u) id HUU.out) 0;have szu:=World.block_lt_of_cell? _ _ u4;go_wp2;refine zG (Fr B.M w2) [(0,true),(1,true),(2,false),(3,false),(4,true),(5,true),(6,true),(7,true),(8,true),(9,false),(10,false),(11,false),(12,false),(13,false)] [13] yE (by kernel_rfl) (by kernel_rfl) (by kernel_rfl) (by decide) ?_
    clear qx qy sz u4 v4 u0 szu
    iterate 2
     (refine zH _ rfl (Fr.refl _ _).drew (fun w' hS=>by
      have q0:=zA (hS.heap (b:=w.heap.size) (NM.out _ (Nat.le_refl _)) BX.out);have q1:=zA (hS.heap (b:=w.heap.size + 1) (NM.out _ (Nat.le_succ _)) BY.out);clear hS;go_simp;rfl) ?_)
    go_simp;refine zB rfl ?_;go_wp2_with fail
    refine (AL.out _ FX.out.drew).mono ?_;rintro e w7 ⟨rfl,hf3⟩;rw [HA.out];have HF3:=hid hf3;clear hf3;have S3:=hid ((Fr.refl B.M w2).drew.trans HF3.out.sub);go_wp2;refine And.intro (fun _=>S3.out) ?_;refine zB rfl ?_;go_wp2;refine And.intro (fun _=>S3.out) ?_
    iterate 5
     (refine zH _ rfl S3.out (fun w' hS=>by
      have q0:=zA (hS.heap (b:=w.heap.size) (NM.out _ (Nat.le_refl _)) BX.out);have q1:=zA (hS.heap (b:=w.heap.size + 1) (NM.out _ (Nat.le_succ _)) BY.out);clear hS;go_simp;rfl) ?_)
    go_simp;refine zB rfl ?_;go_wp2;refine And.intro (fun _=>S3.out) ?_;refine zB rfl ?_;go_wp2;refine And.intro (fun _=>S3.out) ?_;refine zB rfl ?_;go_wp2;refine And.intro (fun _=>S3.out) ?_;refine zB rfl ?_;go_wp2;refine And.intro (fun _=>S3.out) ?_;refine zB rfl ?_;go_wp2;refine And.intro (fun h=>absurd h (by decide)) ?_;refine zO (NoPanic.normal ?_);go_wp2;go_ret;exact ⟨(FX.out.drew.trans HF3.out).sub,rfl,st,HE.out.U.keep (FX.out.drew.trans HF3.out)⟩
theorem unify_unnamed (hD:xF dl ar D)(hDk:zZ D)(N:Nat)(ih:wL da dl dc D ar N)(f g:Lab)(ts us:List Tm)(x y:TyV)(m:Uni.Mode)(w:World)(B:UB)(n:Nat)(st:St)(pv:Value)(r:Res)
 (hE:UEnv da dl dc D ar w B n st pv) (hx:XIn ar dl w B n x (.node f ts)) (hy:XIn ar dl w B n y (.node g us)) (hm:(zU m==0)=false) (hm0:(zU m !=0)=true) (hd:zT D (.node f ts) (.node g us)=false) (hf:f.kind≠1) (hg:g.kind≠1) (hr:(if f=g/\ts.length=us.length then seqS (fun s a b=>zI D N s a b (inner m)) st ts us else some .fail)=some r):
 Calls Tryz.prog 35 #[.pointer (some ⟨B.u,0,none⟩),x.val,y.val,.int .i64 (zU m)] w (xK B n (.slice da dl dc) pv w r):=by
 have NM:=hid (fun b (h:w.heap.size<=b) (hb:B.M b)=>(Nat.not_lt.2 h (hE.M b hb):False));obtain ⟨xs,fx,nx,rx,sx⟩:=hx.r.flat;obtain ⟨ys,fy,ny,ry,sy⟩:=hy.r.flat;have sx:Shape x f xs:=sx;have sy:Shape y g ys:=sy;have kx:x.k=f.kind:=sx.k;have ky:y.k=g.kind:=sy.k;have x2:(x.k==2)=false:=by have:=sx.k2;simp;omega
 have y2:(y.k==2)=false:=by have:=sy.k2;simp;omega
 obtain ⟨ja,cj,ka,ck,hu,_⟩:=hE.U.u;have szu:=hE.U.size.1;have HUU:=hid hu;have u4:=zA hu 4;have v4:=zC hu 4;have u0:=zA hu 0;have DC:=hid (fun (w':World) (f':Fr F0 w w')=>xY da dl dc D ar hDk x y f ts g us w' B n st pv false (hE.keep f').U (hE.keep f').d (hx.keep f'.sub).r (hy.keep f'.sub).r hx.g hy.g (hE.keep f').M);have AL:=hid (fun (w':World) (f':Fr F0 w w')=>alike_any x y (.node f ts) (.node g us) w' B.M (hx.keep f'.sub).r (hy.keep f'.sub).r)
 have AA:=hid (fun (w':World) (f':Fr F0 w w') (hfg:f=g∧ts.length=us.length)=>all_any hD N ih ts us xs ys x.a y.a x.len x.cap y.len y.cap (inner m) w' B n st pv r (by rw [if_pos hfg] at hr;exact hr) (hE.keep f')
  (fx.elems.keep f'.sub) fx.len (by rw [<-fx.len];exact nx) (fy.elems.keep f'.sub) fy.len (by rw [<-fy.len];exact ny) (by rw [<-fx.len,<-fy.len];have:(kids (.node f ts)).length=(kids (.node g us)).length:=hfg.2;omega) fx.bound.2.1
  (fun i z t hz ht=>(⟨rx i z t hz ht,hx.g.kid (List.mem_of_getElem? ht),hx.h.kid (List.mem_of_getElem? ht)⟩:XIn ar dl w B n z t).keep f'.sub)
  (fun i z t hz ht=>(⟨ry i z t hz ht,hy.g.kid (List.mem_of_getElem? ht),hy.h.kid (List.mem_of_getElem? ht)⟩:XIn ar dl w B n z t).keep f'.sub))
 have HR:=hid hr;clear hr;rw [hd] at DC;have x1:(x.k==1)=false:=by rw [kx];simp;omega
 have y1:(y.k==1)=false:=by rw [ky];simp;omega
 clear hd hf hg;have HE:=hid hE;have HX:=hid hx;have HY:=hid hy;have IH:=hid ih;have KX:=hid kx;have KY:=hid ky;have HDD:=hid hD;clear hE hx hy hD ih hu kx ky hDk fx nx rx sx fy ny ry sy;obtain ⟨xk,xn,xc,xv,xa,xlen,xcap,xnm⟩:=x;obtain ⟨yk,yn,yc,yv,ya,ylen,ycap,ynm⟩:=y;unfold TyV.val at *;dsimp only at *;have FX:=hid (((Fr.refl F0 w).alloc (.cells #[.int .i64 xk,.int .i64 xn,.int .i64 xc,.bool xv,.slice xa xlen xcap,.string xnm] 26)).alloc (.cells #[.int .i64 yk,.int .i64 yn,.int .i64 yc,.bool yv,.slice ya ylen ycap,.string ynm] 26))
 have BX:=hid ((Below.heap_alloc _ _ _ (by simp)).trans (heap_alloc_new w (.cells #[.int .i64 xk,.int .i64 xn,.int .i64 xc,.bool xv,.slice xa xlen xcap,.string xnm] 26)):((w.alloc (.cells #[.int .i64 xk,.int .i64 xn,.int .i64 xc,.bool xv,.slice xa xlen xcap,.string xnm] 26)).alloc (.cells #[.int .i64 yk,.int .i64 yn,.int .i64 yc,.bool yv,.slice ya ylen ycap,.string ynm] 26)).heap[w.heap.size]?=some (.cells #[.int .i64 xk,.int .i64 xn,.int .i64 xc,.bool xv,.slice xa xlen xcap,.string xnm] 26 (0,0)))
 have BY:=hid (zS w (.cells #[.int .i64 xk,.int .i64 xn,.int .i64 xc,.bool xv,.slice xa xlen xcap,.string xnm] 26) (.cells #[.int .i64 yk,.int .i64 yn,.int .i64 yc,.bool yv,.slice ya ylen ycap,.string ynm] 26));have SZ:=hid (show w.heap.size + 2<=((w.alloc (.cells #[.int .i64 xk,.int .i64 xn,.int .i64 xc,.bool xv,.slice xa xlen xcap,.string xnm] 26)).alloc (.cells #[.int .i64 yk,.int .i64 yn,.int .i64 yc,.bool yv,.slice ya ylen ycap,.string ynm] 26)).heap.size by simp)
 cases hs2:(zU m==1)
 have tg:Fin 30:=0;rotate_left;have tg:Fin 31:=0;rotate_left
 all_goals
  cases hs1:((xk:Int)==0)
  have tg:Fin 20:=0;rotate_left;have tg:Fin 21:=0;rotate_left
  all_goals
   by_cases hal:f=g/\ts.length=us.length;have tg:Fin 10:=0;rotate_left;have tg:Fin 11:=0;rotate_left
   all_goals
    first
    |rename Fin 10=>tg
     have HA:=hid (show xQ (.node f ts) (.node g us)=true from decide_eq_true hal);have HAL:=hid hal;clear hal HR
    |have HA:=hid (show xQ (.node f ts) (.node g us)=false from decide_eq_false hal)
     have hr:r= .fail:=by have:=HR.out;rw [if_neg hal] at this;exact (Option.some.inj this).symm
     subst hr;clear hal HR AA
    go_enter Tryz.func35,Tryz.ntmps35;go_wp2_with fail
    refine (DC.out _ FX.out).mono ?_;rintro e w1 ⟨rfl,hf1⟩;have BX1:=hid (hf1.heap (b:=w.heap.size) id BX.out);have BY1:=hid (hf1.heap (b:=w.heap.size + 1) id BY.out);have FX1:=hid (FX.out.trans hf1);have SZ1:=hid (Nat.le_trans SZ.out hf1.size);clear BX BY FX SZ hf1
    try clear qx qy sz u4 v4 u0 szu
    have FX:=FX1;have BX:=BX1;have BY:=BY1;have SZ:=SZ1;clear FX1 BX1 BY1 SZ1;have qx:=zA BX.out;have qy:=zA BY.out;have sz:=SZ.out;have u4:=zA (FX.out.heap (b:=B.u) id HUU.out) 4;have v4:=zC (FX.out.heap (b:=B.u) id HUU.out) 4;have u0:=zA (FX.out.heap (b:=B.u) id HUU.out) 0;have szu:=World.block_lt_of_cell? _ _ u4;go_wp2;refine zG (Fr B.M w1) [(0,true),(1,true),(2,false),(3,false),(4,true),(5,true),(6,true),(7,true),(8,true),(9,false),(10,false),(11,false),(12,false),(13,false)] [13] yE (by kernel_rfl) (by kernel_rfl) (by kernel_rfl) (by decide) ?_
    clear qx qy sz u4 v4 u0 szu
    iterate 2
     (refine zH _ rfl (Fr.refl _ _).drew (fun w' hS=>by
      have q0:=zA (hS.heap (b:=w.heap.size) (NM.out _ (Nat.le_refl _)) BX.out);have q1:=zA (hS.heap (b:=w.heap.size + 1) (NM.out _ (Nat.le_succ _)) BY.out);clear hS;go_simp;rfl) ?_)
    go_simp;refine zB rfl ?_;go_wp2_with fail
    refine (AL.out _ FX.out.drew).mono ?_;rintro e w7 ⟨rfl,hf3⟩;rw [HA.out];have HF3:=hid hf3;clear hf3;have S3:=hid ((Fr.refl B.M w1).drew.trans HF3.out.sub);go_wp2;refine And.intro (fun _=>S3.out) ?_;refine zB rfl ?_;go_wp2;refine And.intro (fun _=>S3.out) ?_
    iterate 5
     (refine zH _ rfl S3.out (fun w' hS=>by
      have q0:=zA (hS.heap (b:=w.heap.size) (NM.out _ (Nat.le_refl _)) BX.out);have q1:=zA (hS.heap (b:=w.heap.size + 1) (NM.out _ (Nat.le_succ _)) BY.out);clear hS;go_simp;rfl) ?_)
    go_simp;refine zB rfl ?_;go_wp2;refine And.intro (fun _=>S3.out) ?_;refine zB rfl ?_
    first
    |rename Fin 10=>tg
     go_wp2_with fail
     refine (inner_any m _).mono ?_;rintro e w8 ⟨rfl,hf4⟩;have HF4:=hid hf4;clear hf4;have S4:=hid (S3.out.trans HF4.out.sub);have F4:=hid (FX.out.drew.trans (HF3.out.trans HF4.out))
    |skip
    go_wp2
    first
    |rename Fin 10=>tg
     refine And.intro (fun _=>S4.out) ?_;refine zB rfl ?_;go_wp2_with fail
     refine (AA.out _ F4.out HAL.out).mono ?_;rintro e w9 hp2;have FR:=hid hp2.1;obtain ⟨b,rfl,HP⟩:=hp2.bool F4.out.sub;clear hp2;have S5:=hid (S4.out.trans FR.out);go_wp2;refine And.intro (fun _=>S5.out) ?_
    |refine And.intro (fun _=>S3.out) ?_
    refine zB rfl ?_;go_wp2
    first
    |rename Fin 10=>tg
     refine And.intro (fun _=>S5.out) ?_
    |refine And.intro (fun _=>S3.out) ?_
     refine zB rfl ?_;go_wp2;refine And.intro (fun _=>S3.out) ?_
    refine zB rfl ?_;go_wp2;refine And.intro (fun h=>absurd h (by decide)) ?_;refine zO (NoPanic.normal ?_);go_wp2;go_ret
    first
    |rename Fin 10=>tg
     exact HP.out
    |exact ⟨(FX.out.drew.trans HF3.out).sub,rfl,st,HE.out.U.keep (FX.out.drew.trans HF3.out)⟩
end
section
variable {da:Option Addr}{dl dc:Nat}{D:zE}{ar:Nat->Nat}
theorem modeI_ne {m:Uni.Mode}(h:m≠ .exact):(zU m==0)=false/\(zU m !=0)=true:=by
 cases m
 ·exact absurd rfl h
 ·exact ⟨rfl,rfl⟩
 ·exact ⟨rfl,rfl⟩
theorem unify_node_node (hD:xF dl ar D)(hDk:zZ D)(N:Nat)(ih:wL da dl dc D ar N)(f g:Lab)(ts us:List Tm)(x y:TyV)(m:Uni.Mode)(w:World)(B:UB)(n:Nat)(st:St)(pv:Value)(r:Res)
 (hr:zI D (N + 1) st (.node f ts) (.node g us) m=some r) (hE:UEnv da dl dc D ar w B n st pv) (hx:XIn ar dl w B n x (.node f ts)) (hy:XIn ar dl w B n y (.node g us)):
 Calls Tryz.prog 35 #[.pointer (some ⟨B.u,0,none⟩),x.val,y.val,.int .i64 (zU m)] w (xK B n (.slice da dl dc) pv w r):=by
 rw [zI,yF] at hr;have kf:=hx.g.lab.k2;have kg:=hy.g.lab.k2;by_cases hm:m= .exact
 ·subst hm
  simp only [ne_eq,not_true,false_and,if_false,reduceCtorEq] at hr;exact unify_plain_exact hD hDk N ih f g ts us x y .exact w B n st pv r hE hx hy rfl hr
 obtain ⟨m0,m1⟩:=modeI_ne hm;by_cases hd:zT D (.node f ts) (.node g us)=true
 ·rw [if_pos ⟨hm,hd⟩] at hr
  exact unify_directed hD hDk N ih f g ts us x y m w B n st pv r hE hx hy m0 m1 hd (Option.some.inj hr).symm
 rw [if_neg (fun h=>hd h.2)] at hr;have hd:zT D (.node f ts) (.node g us)=false:=by simpa using hd
 by_cases h1:f.kind=1/\4<=g.kind
 ·rw [if_pos ⟨hm,h1⟩] at hr
  exact unify_named_side.1 hD hDk N ih f g ts us x y m w B n st pv r hE hx hy m0 m1 hd h1.1 h1.2 hr
 rw [if_neg (fun h=>h1 h.2)] at hr;by_cases h2:g.kind=1/\4<=f.kind
 ·rw [if_pos ⟨hm,h2⟩] at hr
  exact unify_named_side.2 hD hDk N ih f g ts us x y m w B n st pv r hE hx hy m0 m1 hd h2.2 h2.1 hr
 rw [if_neg (fun h=>h2 h.2)] at hr;by_cases h3:f.kind=1/\g.kind=0\/f.kind=0/\g.kind=1
 ·rw [if_pos ⟨hm,h3⟩] at hr
  rcases h3 with h3 | h3
  ·exact unify_named_basics.1 hD hDk N ih f g ts us x y m w B n st pv r hE hx hy m0 m1 hd h3.1 h3.2 (Option.some.inj hr).symm
  ·exact unify_named_basics.2 hD hDk N ih f g ts us x y m w B n st pv r hE hx hy m0 m1 hd h3.1 h3.2 (Option.some.inj hr).symm
 rw [if_neg (fun h=>h3 h.2)] at hr;by_cases hf:f.kind=1
 ·by_cases hg:g.kind=1
  ·by_cases ha:m= .assign
   ·have hm1:(zU m==1)=true:=by rw [ha];rfl
    by_cases hn:f.n=g.n
    ·by_cases hs:Tm.node f ts= .node g us
     ·rw [if_neg (fun h=>h.2.2.2.2 hs)] at hr
      exact unify_named.1 hD hDk N ih f g ts us x y m w B n st pv r hE hx hy m0 m1 hd hm1 hf hg hn (by simpa [same] using hs) hr
     ·rw [if_pos ⟨ha,hf,hg,hn,hs⟩] at hr
      exact unify_named_silent hD hDk N ih f g ts us x y m w B n st pv r hE hx hy m0 m1 hd hm1 hf hg hn (by simpa [same] using hs) (Option.some.inj hr).symm
    ·rw [if_neg (fun h=>hn h.2.2.2.1)] at hr
     exact unify_named.2.1 hD hDk N ih f g ts us x y m w B n st pv r hE hx hy m0 m1 hd hm1 hf hg hn hr
   ·rw [if_neg (fun h=>ha h.1)] at hr
    have hm1:(zU m==1)=false:=by cases m <;>first | rfl | exact absurd rfl ha
    exact unify_named.2.2 hD hDk N ih f g ts us x y m w B n st pv r hE hx hy m0 m1 hd hm1 hf hg hr
  ·rw [if_neg (fun h=>hg h.2.2.1)] at hr
   exact unify_own.1 hD hDk N ih f g ts us x y m w B n st pv r hE hx hy m0 m1 hd hf (by omega) hr
 ·rw [if_neg (fun h=>hf h.2.1)] at hr
  by_cases hg:g.kind=1
  ·exact unify_own.2 hD hDk N ih f g ts us x y m w B n st pv r hE hx hy m0 m1 hd (by omega) hg hr
  ·exact unify_unnamed hD hDk N ih f g ts us x y m w B n st pv r hE hx hy m0 m1 hd hf hg hr
theorem unify_any (hD:xF dl ar D)(hDk:zZ D)(N:Nat):wL da dl dc D ar N:=by
 induction N with
 |zero=>intro s t x y m w B n st pv r h;cases h
 |succ N ih=>
  intro s t x y m w B n st pv r h hE hx hy
  cases s with
  |var p=>
   cases t with
   |var q=>exact unify_var_var N ih p q x y m w B n st pv r h hE hx hy
   |node g us=>exact unify_var_node hD N ih p g us x y m w B n st pv r h hE hx hy
  |node f ts=>
   cases t with
   |var q=>exact unify_node_var hD N ih q f ts x y m w B n st pv r h hE hx hy
   |node g us=>exact unify_node_node hD hDk N ih f g ts us x y m w B n st pv r h hE hx hy
end
end Go.Proofs.YtpekidjfbinekaaGreatDoor
