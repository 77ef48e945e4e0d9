/- W12, W13 -/
import Derived.Test.YtpekidjfbinekaaGreatDoorA26
set_option maxRecDepth 100000
set_option maxHeartbeats 60000000
set_option linter.all false
namespace Go.Proofs.YtpekidjfbinekaaGreatDoor
open Go.RowKit Uni
theorem holes_own {n k:Nat}{l:List Tm}(hl:l.length=k)(hh: ∀t∈l,Holes 2 n t){t:Tm}(h:Holes 2 0 t):Holes 3 k t->Holes 2 n (t.own l):=by
 induction h with
 |var p h=>exact absurd (h rfl) (by omega)
 |node f ts h1 h2 ih=>
  intro h3;rw [Tm.own_node]
  cases h3 with
  |node _ _ h4 h5=>
  split
  ·rename_i hk
   have:=h4 hk.symm;rw [List.getD_eq_getElem?_getD,List.getElem?_eq_getElem (by omega)];exact hh _ (List.getElem_mem _)
  ·refine .node f _ (fun h=>absurd (h1 h) (by omega)) fun t ht=> ?_
   obtain ⟨u,hu,rfl⟩:=List.mem_map.1 ht;exact ih u hu (h5 u hu)
section
variable {da:Option Addr}{dl dc:Nat}{D:zE}{ar:Nat->Nat}
theorem XIn.und {w w':World}{B:UB}{n:Nat}{f:Lab}{ts:List Tm}{x r:TyV}{M:Nat->Prop}(hD:xF dl ar D)(hd:DRep w M da dl D ar)(h:XIn ar dl w B n x (.node f ts))(hf:f.kind=1)(hr:RT w' B.M r (Uni.und D (.node f ts))):XIn ar dl w' B n r (Uni.und D (.node f ts)):=by
 have hk:=h.g.lab.k1 hf;refine ⟨hr,h.g.und hD,?_⟩;rw [und_own hf];exact holes_own hk.2 (fun t ht=>h.h.kid ht) (hd.noVar f.n hk.1) (hd.own f.n hk.1)
theorem xK.dv {B:UB}{n:Nat}{dv pv:Value}{w:World}{r:Res}{e:Ending}{w':World}(h:xK B n dv pv w r e w'):w'.cell? ⟨B.u,0,none⟩=some dv:=by
 obtain ⟨hf,h⟩:=h
 have key: ∀s sil,URep w' B n s dv pv sil→w'.cell? ⟨B.u,0,none⟩=some dv:=fun s sil hU=>by
  obtain ⟨ja,cj,ka,ck,hu,_⟩:=hU.u;exact zA hu 0
 cases r with
 |silent=>obtain ⟨_,s,hU⟩:=h;exact key _ _ hU
 |fail=>obtain ⟨_,s,hU⟩:=h;exact key _ _ hU
 |ok s=>exact key _ _ h.2
theorem unify_directed (hD:xF dl ar D)(hDk:zZ D)(N:Nat)(ih:wL da dl dc D ar N)(f g:Lab)(ts us:List Tm)(x y:TyV)(m:Uni.Mode)(w:World)(B:UB)(n:Nat)(st:St)(pv:Value)(r:Res)
 (hE:UEnv da dl dc D ar w B n st pv) (hx:XIn ar dl w B n x (.node f ts)) (hy:XIn ar dl w B n y (.node g us)) (hm:(zU m==0)=false) (hm0:(zU m !=0)=true) (hd:zT D (.node f ts) (.node g us)=true) (hr:r= .silent):
 Calls Tryz.prog 35 #[.pointer (some ⟨B.u,0,none⟩),x.val,y.val,.int .i64 (zU m)] w (xK B n (.slice da dl dc) pv w r):=by
 have NM:=hid (fun b (h:w.heap.size<=b) (hb:B.M b)=>(Nat.not_lt.2 h (hE.M b hb):False));obtain ⟨xs,fx,nx,rx,sx⟩:=hx.r.flat;obtain ⟨ys,fy,ny,ry,sy⟩:=hy.r.flat;have sx:Shape x f xs:=sx;have sy:Shape y g ys:=sy;have kx:x.k=f.kind:=sx.k;have ky:y.k=g.kind:=sy.k;have x2:(x.k==2)=false:=by have:=sx.k2;simp;omega
 have y2:(y.k==2)=false:=by have:=sy.k2;simp;omega
 obtain ⟨ja,cj,ka,ck,hu,_⟩:=hE.U.u;have szu:=hE.U.size.1;have HUU:=hid hu;have u4:=zA hu 4;have v4:=zC hu 4;have u0:=zA hu 0;have DC:=hid (fun (w':World) (f':Fr F0 w w')=>xY da dl dc D ar hDk x y f ts g us w' B n st pv false (hE.keep f').U (hE.keep f').d (hx.keep f'.sub).r (hy.keep f'.sub).r hx.g hy.g (hE.keep f').M);rw [hd] at DC;clear hd;subst hr;have HE:=hid hE;have HX:=hid hx;have HY:=hid hy;have IH:=hid ih;have KX:=hid kx;have KY:=hid ky;have HDD:=hid hD
 clear hE hx hy hD ih hu kx ky hDk fx nx rx sx fy ny ry sy;obtain ⟨xk,xn,xc,xv,xa,xlen,xcap,xnm⟩:=x;obtain ⟨yk,yn,yc,yv,ya,ylen,ycap,ynm⟩:=y;unfold TyV.val at *;dsimp only at *;have FX:=hid (((Fr.refl F0 w).alloc (.cells #[.int .i64 xk,.int .i64 xn,.int .i64 xc,.bool xv,.slice xa xlen xcap,.string xnm] 26)).alloc (.cells #[.int .i64 yk,.int .i64 yn,.int .i64 yc,.bool yv,.slice ya ylen ycap,.string ynm] 26))
 have BX:=hid ((Below.heap_alloc _ _ _ (by simp)).trans (heap_alloc_new w (.cells #[.int .i64 xk,.int .i64 xn,.int .i64 xc,.bool xv,.slice xa xlen xcap,.string xnm] 26)):((w.alloc (.cells #[.int .i64 xk,.int .i64 xn,.int .i64 xc,.bool xv,.slice xa xlen xcap,.string xnm] 26)).alloc (.cells #[.int .i64 yk,.int .i64 yn,.int .i64 yc,.bool yv,.slice ya ylen ycap,.string ynm] 26)).heap[w.heap.size]?=some (.cells #[.int .i64 xk,.int .i64 xn,.int .i64 xc,.bool xv,.slice xa xlen xcap,.string xnm] 26 (0,0)))
 have BY:=hid (zS w (.cells #[.int .i64 xk,.int .i64 xn,.int .i64 xc,.bool xv,.slice xa xlen xcap,.string xnm] 26) (.cells #[.int .i64 yk,.int .i64 yn,.int .i64 yc,.bool yv,.slice ya ylen ycap,.string ynm] 26));have SZ:=hid (show w.heap.size + 2<=((w.alloc (.cells #[.int .i64 xk,.int .i64 xn,.int .i64 xc,.bool xv,.slice xa xlen xcap,.string xnm] 26)).alloc (.cells #[.int .i64 yk,.int .i64 yn,.int .i64 yc,.bool yv,.slice ya ylen ycap,.string ynm] 26)).heap.size by simp)
 go_enter Tryz.func35,Tryz.ntmps35;go_wp2_with fail
 refine (DC.out _ FX.out).mono ?_;rintro e w1 ⟨rfl,hf1⟩;have BX1:=hid (hf1.heap (b:=w.heap.size) id BX.out);have BY1:=hid (hf1.heap (b:=w.heap.size + 1) id BY.out);have FX1:=hid (FX.out.trans hf1);have SZ1:=hid (Nat.le_trans SZ.out hf1.size);clear BX BY FX SZ hf1
 try clear qx qy sz u4 v4 u0 szu
 have FX:=FX1;have BX:=BX1;have BY:=BY1;have SZ:=SZ1;clear FX1 BX1 BY1 SZ1;have qx:=zA BX.out;have qy:=zA BY.out;have sz:=SZ.out;have u4:=zA (FX.out.heap (b:=B.u) id HUU.out) 4;have v4:=zC (FX.out.heap (b:=B.u) id HUU.out) 4;have u0:=zA (FX.out.heap (b:=B.u) id HUU.out) 0;have szu:=World.block_lt_of_cell? _ _ u4;go_wp2;go_ret;exact ⟨FX.out.sub.setCell (.inl (.inl rfl)) _,rfl,st,(HE.out.U.keep FX.out).hush true⟩
theorem unify_named_side:
 (∀(hD:xF dl ar D) (hDk:zZ D) (N:Nat) (ih:wL da dl dc D ar N) (f g:Lab) (ts us:List Tm) (x y:TyV) (m:Uni.Mode) (w:World) (B:UB) (n:Nat) (st:St) (pv:Value) (r:Res) (hE:UEnv da dl dc D ar w B n st pv) (hx:XIn ar dl w B n x (.node f ts)) (hy:XIn ar dl w B n y (.node g us)) (hm:(zU m==0)=false) (hm0:(zU m !=0)=true) (hd:zT D (.node f ts) (.node g us)=false) (hf:f.kind=1) (hg:4≤g.kind) (hr:zI D N st (Uni.und D (.node f ts)) (.node g us) (inner m)=some r),
  Calls Tryz.prog 35 #[.pointer (some ⟨B.u,0,none⟩),x.val,y.val,.int .i64 (zU m)] w (xK B n (.slice da dl dc) pv w r))/\
 (∀(hD:xF dl ar D) (hDk:zZ D) (N:Nat) (ih:wL da dl dc D ar N) (f g:Lab) (ts us:List Tm) (x y:TyV) (m:Uni.Mode) (w:World) (B:UB) (n:Nat) (st:St) (pv:Value) (r:Res) (hE:UEnv da dl dc D ar w B n st pv) (hx:XIn ar dl w B n x (.node f ts)) (hy:XIn ar dl w B n y (.node g us)) (hm:(zU m==0)=false) (hm0:(zU m !=0)=true) (hd:zT D (.node f ts) (.node g us)=false) (hf:4≤f.kind) (hg:g.kind=1) (hr:zI D N st (.node f ts) (Uni.und D (.node g us)) (inner m)=some r),
  Calls Tryz.prog 35 #[.pointer (some ⟨B.u,0,none⟩),x.val,y.val,.int .i64 (zU m)] w (xK B n (.slice da dl dc) pv w r)):=by
 refine ⟨@fun hD hDk N ih f g ts us x y m w B n st pv r hE hx hy hm hm0 hd hf hg hr=>have tg:Fin 1:=0;?_,@fun hD hDk N ih f g ts us x y m w B n st pv r hE hx hy hm hm0 hd hf hg hr=>have tg:Fin 2:=0;?_⟩
 all_goals
  have NM:=hid (fun b (h:w.heap.size<=b) (hb:B.M b)=>(Nat.not_lt.2 h (hE.M b hb):False));obtain ⟨xs,fx,nx,rx,sx⟩:=hx.r.flat;obtain ⟨ys,fy,ny,ry,sy⟩:=hy.r.flat;have sx:Shape x f xs:=sx;have sy:Shape y g ys:=sy;have kx:x.k=f.kind:=sx.k;have ky:y.k=g.kind:=sy.k;have x2:(x.k==2)=false:=by have:=sx.k2;simp;omega
  have y2:(y.k==2)=false:=by have:=sy.k2;simp;omega
  obtain ⟨ja,cj,ka,ck,hu,_⟩:=hE.U.u;have szu:=hE.U.size.1;have HUU:=hid hu;have u4:=zA hu 4;have v4:=zC hu 4;have u0:=zA hu 0;have DC:=hid (fun (w':World) (f':Fr F0 w w')=>xY da dl dc D ar hDk x y f ts g us w' B n st pv false (hE.keep f').U (hE.keep f').d (hx.keep f'.sub).r (hy.keep f'.sub).r hx.g hy.g (hE.keep f').M)
  first
  |rename Fin 1=>tg
   have hk1:=hx.g.lab.k1 hf;have UN:=hid (fun (w':World) (f':Fr F0 w w')=>xG da dl dc D ar x f ts w' B.M (hE.keep f').d (hx.keep f'.sub).r hf hk1.1 hk1.2 (hE.keep f').M);have XU:=hid (fun (w1 w2:World) (rr:TyV) (h:RT w1 B.M rr (Uni.und D (.node f ts))) (f':Fr F0 w1 w2)=>(hx.und hD hE.d hf h).keep f'.sub);have LI:=hid (fun (w':World)=>yG y true w' (by rw [ky];simp;omega))
  |have hk1:=hy.g.lab.k1 hg
   have UN:=hid (fun (w':World) (f':Fr F0 w w')=>xG da dl dc D ar y g us w' B.M (hE.keep f').d (hy.keep f'.sub).r hg hk1.1 hk1.2 (hE.keep f').M);have XU:=hid (fun (w1 w2:World) (rr:TyV) (h:RT w1 B.M rr (Uni.und D (.node g us))) (f':Fr F0 w1 w2)=>(hy.und hD hE.d hg h).keep f'.sub);have LI:=hid (fun (w':World)=>yG x true w' (by rw [kx];simp;omega))
  clear hk1;rw [hd] at DC;have HR:=hid hr
  first
  |rename Fin 1=>tg
   have x1:x.k=1:=by rw [kx,hf];rfl
  |have y1:y.k=1:=by rw [ky,hg];rfl
   have x1:(x.k==1)=false:=by rw [kx];simp;omega
  clear hd hr hf hg;have HE:=hid hE;have HX:=hid hx;have HY:=hid hy;have IH:=hid ih;have KX:=hid kx;have KY:=hid ky;have HDD:=hid hD;clear hE hx hy hD ih hu kx ky hDk fx nx rx sx fy ny ry sy;obtain ⟨xk,xn,xc,xv,xa,xlen,xcap,xnm⟩:=x;obtain ⟨yk,yn,yc,yv,ya,ylen,ycap,ynm⟩:=y;unfold TyV.val at *;dsimp only at *;have FX:=hid (((Fr.refl F0 w).alloc (.cells #[.int .i64 xk,.int .i64 xn,.int .i64 xc,.bool xv,.slice xa xlen xcap,.string xnm] 26)).alloc (.cells #[.int .i64 yk,.int .i64 yn,.int .i64 yc,.bool yv,.slice ya ylen ycap,.string ynm] 26))
  have BX:=hid ((Below.heap_alloc _ _ _ (by simp)).trans (heap_alloc_new w (.cells #[.int .i64 xk,.int .i64 xn,.int .i64 xc,.bool xv,.slice xa xlen xcap,.string xnm] 26)):((w.alloc (.cells #[.int .i64 xk,.int .i64 xn,.int .i64 xc,.bool xv,.slice xa xlen xcap,.string xnm] 26)).alloc (.cells #[.int .i64 yk,.int .i64 yn,.int .i64 yc,.bool yv,.slice ya ylen ycap,.string ynm] 26)).heap[w.heap.size]?=some (.cells #[.int .i64 xk,.int .i64 xn,.int .i64 xc,.bool xv,.slice xa xlen xcap,.string xnm] 26 (0,0)))
  have BY:=hid (zS w (.cells #[.int .i64 xk,.int .i64 xn,.int .i64 xc,.bool xv,.slice xa xlen xcap,.string xnm] 26) (.cells #[.int .i64 yk,.int .i64 yn,.int .i64 yc,.bool yv,.slice ya ylen ycap,.string ynm] 26));have SZ:=hid (show w.heap.size + 2<=((w.alloc (.cells #[.int .i64 xk,.int .i64 xn,.int .i64 xc,.bool xv,.slice xa xlen xcap,.string xnm] 26)).alloc (.cells #[.int .i64 yk,.int .i64 yn,.int .i64 yc,.bool yv,.slice ya ylen ycap,.string ynm] 26)).heap.size by simp)
  first
  |rename Fin 1=>tg
   subst x1
  |subst y1
  go_enter Tryz.func35,Tryz.ntmps35;go_wp2_with fail
  refine (DC.out _ FX.out).mono ?_;rintro e w1 ⟨rfl,hf1⟩;have BX1:=hid (hf1.heap (b:=w.heap.size) id BX.out);have BY1:=hid (hf1.heap (b:=w.heap.size + 1) id BY.out);have FX1:=hid (FX.out.trans hf1);have SZ1:=hid (Nat.le_trans SZ.out hf1.size);clear BX BY FX SZ hf1
  try clear qx qy sz u4 v4 u0 szu
  have FX:=FX1;have BX:=BX1;have BY:=BY1;have SZ:=SZ1;clear FX1 BX1 BY1 SZ1;have qx:=zA BX.out;have qy:=zA BY.out;have sz:=SZ.out;have u4:=zA (FX.out.heap (b:=B.u) id HUU.out) 4;have v4:=zC (FX.out.heap (b:=B.u) id HUU.out) 4;have u0:=zA (FX.out.heap (b:=B.u) id HUU.out) 0;have szu:=World.block_lt_of_cell? _ _ u4;go_wp2_with fail
  refine (LI.out _).mono ?_;rintro e w2 ⟨rfl,hf1⟩;have BX1:=hid (hf1.heap (b:=w.heap.size) id BX.out);have BY1:=hid (hf1.heap (b:=w.heap.size + 1) id BY.out);have FX1:=hid (FX.out.trans hf1);have SZ1:=hid (Nat.le_trans SZ.out hf1.size);clear BX BY FX SZ hf1
  try clear qx qy sz u4 v4 u0 szu
  have FX:=FX1;have BX:=BX1;have BY:=BY1;have SZ:=SZ1;clear FX1 BX1 BY1 SZ1;have qx:=zA BX.out;have qy:=zA BY.out;have sz:=SZ.out;have u4:=zA (FX.out.heap (b:=B.u) id HUU.out) 4;have v4:=zC (FX.out.heap (b:=B.u) id HUU.out) 4;have u0:=zA (FX.out.heap (b:=B.u) id HUU.out) 0;have szu:=World.block_lt_of_cell? _ _ u4;go_wp2
  first
  |rename Fin 1=>tg
   refine zG (fun W'=>Fr B.M w2 W'/\W'.cell? ⟨B.u,0,none⟩=some (.slice da dl dc)) [(0,true),(1,true),(2,true),(3,true),(4,true),(5,true),(7,true),(8,true),(6,false),(9,false),(10,false),(11,false)] [11] yE (by kernel_rfl) (by kernel_rfl) (by kernel_rfl) (by decide) ?_
  |refine zG (fun W'=>Fr B.M w2 W'/\W'.cell? ⟨B.u,0,none⟩=some (.slice da dl dc)) [(0,true),(1,true),(2,true),(3,true),(4,true),(5,true),(6,true),(8,true),(7,false),(9,false),(10,false),(11,false)] [11] yE (by kernel_rfl) (by kernel_rfl) (by kernel_rfl) (by decide) ?_
  have C0:=hid u0;clear qx qy sz u4 v4 u0 szu
  iterate 8
   (refine zH _ rfl ⟨(Fr.refl _ _).drew,C0.out⟩ (fun w' hS=>by
    obtain ⟨hS,c0⟩:=hS;have q0:=zA (hS.heap (b:=w.heap.size) (NM.out _ (Nat.le_refl _)) BX.out);have q1:=zA (hS.heap (b:=w.heap.size + 1) (NM.out _ (Nat.le_succ _)) BY.out);have szu:=World.block_lt_of_cell? _ _ c0;clear hS;go_simp;rfl) ?_)
  go_simp;refine zB rfl ?_;go_wp2_with fail
  refine (UN.out _ FX.out.drew).mono ?_;rintro e w3 ⟨rr,rfl,hrr,hf3⟩;have HRR:=hid hrr;have HF3:=hid hf3;clear hrr hf3;have C3:=hid (HF3.out.cell (M:=F0) (p:=⟨B.u,0,none⟩) id C0.out);go_wp2;refine And.intro (fun _=>⟨(Fr.refl _ _).drew.trans HF3.out.sub,C3.out⟩) ?_;refine zB rfl ?_;go_wp2_with fail
  refine (inner_any m _).mono ?_;rintro e w4 ⟨rfl,hf4⟩;have HF4:=hid hf4;clear hf4;have F4:=hid (FX.out.drew.trans (HF3.out.trans HF4.out));go_wp2;refine And.intro (fun _=>⟨((Fr.refl _ _).drew.trans HF3.out.sub).trans HF4.out.sub,HF4.out.cell (M:=F0) (p:=⟨B.u,0,none⟩) id C3.out⟩) ?_;refine zB rfl ?_;go_wp2_with fail
  first
  |rename Fin 1=>tg
   refine (IH.out (Uni.und D (.node f ts)) (.node g us) rr ⟨yk,yn,yc,yv,ya,ylen,ycap,ynm⟩ (inner m) _ B n st pv r HR.out (HE.out.keep F4.out) (XU.out _ _ _ HRR.out HF4.out) (HY.out.keep F4.out.sub)).mono ?_
  |refine (IH.out (.node f ts) (Uni.und D (.node g us)) ⟨xk,xn,xc,xv,xa,xlen,xcap,xnm⟩ rr (inner m) _ B n st pv r HR.out (HE.out.keep F4.out) (HX.out.keep F4.out.sub) (XU.out _ _ _ HRR.out HF4.out)).mono ?_
  rintro e w5 hp2;have DV:=hid hp2.dv;have FR:=hid hp2.1;obtain ⟨b,rfl,HP⟩:=hp2.bool F4.out.sub;clear hp2;go_wp2;refine And.intro (fun _=>⟨(((Fr.refl _ _).drew.trans HF3.out.sub).trans HF4.out.sub).trans FR.out,DV.out⟩) ?_;refine zB rfl ?_;go_wp2;refine And.intro (fun h=>absurd h (by decide)) ?_;refine zO (NoPanic.normal ?_);go_wp2;go_ret;exact HP.out
theorem unify_named_basics:
 (∀(hD:xF dl ar D) (hDk:zZ D) (N:Nat) (ih:wL da dl dc D ar N) (f g:Lab) (ts us:List Tm) (x y:TyV) (m:Uni.Mode) (w:World) (B:UB) (n:Nat) (st:St) (pv:Value) (r:Res) (hE:UEnv da dl dc D ar w B n st pv) (hx:XIn ar dl w B n x (.node f ts)) (hy:XIn ar dl w B n y (.node g us)) (hm:(zU m==0)=false) (hm0:(zU m !=0)=true) (hd:zT D (.node f ts) (.node g us)=false) (hf:f.kind=1) (hg:g.kind=0) (hr:r= .silent),
  Calls Tryz.prog 35 #[.pointer (some ⟨B.u,0,none⟩),x.val,y.val,.int .i64 (zU m)] w (xK B n (.slice da dl dc) pv w r))/\
 (∀(hD:xF dl ar D) (hDk:zZ D) (N:Nat) (ih:wL da dl dc D ar N) (f g:Lab) (ts us:List Tm) (x y:TyV) (m:Uni.Mode) (w:World) (B:UB) (n:Nat) (st:St) (pv:Value) (r:Res) (hE:UEnv da dl dc D ar w B n st pv) (hx:XIn ar dl w B n x (.node f ts)) (hy:XIn ar dl w B n y (.node g us)) (hm:(zU m==0)=false) (hm0:(zU m !=0)=true) (hd:zT D (.node f ts) (.node g us)=false) (hf:f.kind=0) (hg:g.kind=1) (hr:r= .silent),
  Calls Tryz.prog 35 #[.pointer (some ⟨B.u,0,none⟩),x.val,y.val,.int .i64 (zU m)] w (xK B n (.slice da dl dc) pv w r)):=by
 refine ⟨@fun hD hDk N ih f g ts us x y m w B n st pv r hE hx hy hm hm0 hd hf hg hr=>have tg:Fin 1:=0;?_,@fun hD hDk N ih f g ts us x y m w B n st pv r hE hx hy hm hm0 hd hf hg hr=>have tg:Fin 2:=0;?_⟩
 all_goals
  have NM:=hid (fun b (h:w.heap.size<=b) (hb:B.M b)=>(Nat.not_lt.2 h (hE.M b hb):False));obtain ⟨xs,fx,nx,rx,sx⟩:=hx.r.flat;obtain ⟨ys,fy,ny,ry,sy⟩:=hy.r.flat;have sx:Shape x f xs:=sx;have sy:Shape y g ys:=sy;have kx:x.k=f.kind:=sx.k;have ky:y.k=g.kind:=sy.k;have x2:(x.k==2)=false:=by have:=sx.k2;simp;omega
  have y2:(y.k==2)=false:=by have:=sy.k2;simp;omega
  obtain ⟨ja,cj,ka,ck,hu,_⟩:=hE.U.u;have szu:=hE.U.size.1;have HUU:=hid hu;have u4:=zA hu 4;have v4:=zC hu 4;have u0:=zA hu 0;have DC:=hid (fun (w':World) (f':Fr F0 w w')=>xY da dl dc D ar hDk x y f ts g us w' B n st pv false (hE.keep f').U (hE.keep f').d (hx.keep f'.sub).r (hy.keep f'.sub).r hx.g hy.g (hE.keep f').M)
  first
  |rename Fin 1=>tg
   have LI:=hid (fun (w':World)=>yG y false w' (by rw [ky];simp;omega))
  |have LJ:=hid (fun (w':World)=>yG x false w' (by rw [kx];simp;omega))
  rw [hd] at DC
  first
  |rename Fin 1=>tg
   have x1:x.k=1:=by rw [kx,hf];rfl
   have y1:y.k=0:=by rw [ky,hg];rfl
  |have x1:x.k=0:=by rw [kx,hf];rfl
   have y1:y.k=1:=by rw [ky,hg];rfl
  subst hr;clear hd hf hg;have HE:=hid hE;have HX:=hid hx;have HY:=hid hy;have IH:=hid ih;have KX:=hid kx;have KY:=hid ky;have HDD:=hid hD;clear hE hx hy hD ih hu kx ky hDk fx nx rx sx fy ny ry sy;obtain ⟨xk,xn,xc,xv,xa,xlen,xcap,xnm⟩:=x;obtain ⟨yk,yn,yc,yv,ya,ylen,ycap,ynm⟩:=y;unfold TyV.val at *;dsimp only at *;have FX:=hid (((Fr.refl F0 w).alloc (.cells #[.int .i64 xk,.int .i64 xn,.int .i64 xc,.bool xv,.slice xa xlen xcap,.string xnm] 26)).alloc (.cells #[.int .i64 yk,.int .i64 yn,.int .i64 yc,.bool yv,.slice ya ylen ycap,.string ynm] 26))
  have BX:=hid ((Below.heap_alloc _ _ _ (by simp)).trans (heap_alloc_new w (.cells #[.int .i64 xk,.int .i64 xn,.int .i64 xc,.bool xv,.slice xa xlen xcap,.string xnm] 26)):((w.alloc (.cells #[.int .i64 xk,.int .i64 xn,.int .i64 xc,.bool xv,.slice xa xlen xcap,.string xnm] 26)).alloc (.cells #[.int .i64 yk,.int .i64 yn,.int .i64 yc,.bool yv,.slice ya ylen ycap,.string ynm] 26)).heap[w.heap.size]?=some (.cells #[.int .i64 xk,.int .i64 xn,.int .i64 xc,.bool xv,.slice xa xlen xcap,.string xnm] 26 (0,0)))
  have BY:=hid (zS w (.cells #[.int .i64 xk,.int .i64 xn,.int .i64 xc,.bool xv,.slice xa xlen xcap,.string xnm] 26) (.cells #[.int .i64 yk,.int .i64 yn,.int .i64 yc,.bool yv,.slice ya ylen ycap,.string ynm] 26));have SZ:=hid (show w.heap.size + 2<=((w.alloc (.cells #[.int .i64 xk,.int .i64 xn,.int .i64 xc,.bool xv,.slice xa xlen xcap,.string xnm] 26)).alloc (.cells #[.int .i64 yk,.int .i64 yn,.int .i64 yc,.bool yv,.slice ya ylen ycap,.string ynm] 26)).heap.size by simp)
  subst x1 y1;go_enter Tryz.func35,Tryz.ntmps35;go_wp2_with fail
  refine (DC.out _ FX.out).mono ?_;rintro e w1 ⟨rfl,hf1⟩;have BX1:=hid (hf1.heap (b:=w.heap.size) id BX.out);have BY1:=hid (hf1.heap (b:=w.heap.size + 1) id BY.out);have FX1:=hid (FX.out.trans hf1);have SZ1:=hid (Nat.le_trans SZ.out hf1.size);clear BX BY FX SZ hf1
  try clear qx qy sz u4 v4 u0 szu
  have FX:=FX1;have BX:=BX1;have BY:=BY1;have SZ:=SZ1;clear FX1 BX1 BY1 SZ1;have qx:=zA BX.out;have qy:=zA BY.out;have sz:=SZ.out;have u4:=zA (FX.out.heap (b:=B.u) id HUU.out) 4;have v4:=zC (FX.out.heap (b:=B.u) id HUU.out) 4;have u0:=zA (FX.out.heap (b:=B.u) id HUU.out) 0;have szu:=World.block_lt_of_cell? _ _ u4;go_wp2_with fail
  first
  |rename Fin 1=>tg
   refine (LI.out _).mono ?_
  |refine (LJ.out _).mono ?_
  rintro e w2 ⟨rfl,hf1⟩;have BX1:=hid (hf1.heap (b:=w.heap.size) id BX.out);have BY1:=hid (hf1.heap (b:=w.heap.size + 1) id BY.out);have FX1:=hid (FX.out.trans hf1);have SZ1:=hid (Nat.le_trans SZ.out hf1.size);clear BX BY FX SZ hf1
  try clear qx qy sz u4 v4 u0 szu
  have FX:=FX1;have BX:=BX1;have BY:=BY1;have SZ:=SZ1;clear FX1 BX1 BY1 SZ1;have qx:=zA BX.out;have qy:=zA BY.out;have sz:=SZ.out;have u4:=zA (FX.out.heap (b:=B.u) id HUU.out) 4;have v4:=zC (FX.out.heap (b:=B.u) id HUU.out) 4;have u0:=zA (FX.out.heap (b:=B.u) id HUU.out) 0;have szu:=World.block_lt_of_cell? _ _ u4;go_wp2;go_ret;exact ⟨FX.out.sub.setCell (.inl (.inl rfl)) _,rfl,st,(HE.out.U.keep FX.out).hush true⟩
end
section
variable {da:Option Addr}{dl dc:Nat}{D:zE}{ar:Nat->Nat}
theorem unify_plain_exact (hD:xF dl ar D)(hDk:zZ D)(N:Nat)(ih:wL da dl dc D ar N)(f g:Lab)(ts us:List Tm)(x y:TyV)(m:Uni.Mode)(w:World)(B:UB)(n:Nat)(st:St)(pv:Value)(r:Res)
 (hE:UEnv da dl dc D ar w B n st pv) (hx:XIn ar dl w B n x (.node f ts)) (hy:XIn ar dl w B n y (.node g us)) (hm:m= .exact) (hr:(if f=g/\ts.length=us.length then seqS (fun s a b=>zI D N s a b (inner m)) st ts us else some .fail)=some r):
 Calls Tryz.prog 35 #[.pointer (some ⟨B.u,0,none⟩),x.val,y.val,.int .i64 (zU m)] w (xK B n (.slice da dl dc) pv w r):=by
 have NM:=hid (fun b (h:w.heap.size<=b) (hb:B.M b)=>(Nat.not_lt.2 h (hE.M b hb):False));obtain ⟨xs,fx,nx,rx,sx⟩:=hx.r.flat;obtain ⟨ys,fy,ny,ry,sy⟩:=hy.r.flat;have sx:Shape x f xs:=sx;have sy:Shape y g ys:=sy;have kx:x.k=f.kind:=sx.k;have ky:y.k=g.kind:=sy.k;have x2:(x.k==2)=false:=by have:=sx.k2;simp;omega
 have y2:(y.k==2)=false:=by have:=sy.k2;simp;omega
 obtain ⟨ja,cj,ka,ck,hu,_⟩:=hE.U.u;have szu:=hE.U.size.1;have HUU:=hid hu;have u4:=zA hu 4;have v4:=zC hu 4;have u0:=zA hu 0;have AL:=hid (fun (w':World) (f':Fr F0 w w')=>alike_any x y (.node f ts) (.node g us) w' B.M (hx.keep f'.sub).r (hy.keep f'.sub).r)
 have AA:=hid (fun (w':World) (f':Fr F0 w w') (hfg:f=g∧ts.length=us.length)=>all_any hD N ih ts us xs ys x.a y.a x.len x.cap y.len y.cap (inner m) w' B n st pv r (by rw [if_pos hfg] at hr;exact hr) (hE.keep f')
  (fx.elems.keep f'.sub) fx.len (by rw [<-fx.len];exact nx) (fy.elems.keep f'.sub) fy.len (by rw [<-fy.len];exact ny) (by rw [<-fx.len,<-fy.len];have:(kids (.node f ts)).length=(kids (.node g us)).length:=hfg.2;omega) fx.bound.2.1
  (fun i z t hz ht=>(⟨rx i z t hz ht,hx.g.kid (List.mem_of_getElem? ht),hx.h.kid (List.mem_of_getElem? ht)⟩:XIn ar dl w B n z t).keep f'.sub)
  (fun i z t hz ht=>(⟨ry i z t hz ht,hy.g.kid (List.mem_of_getElem? ht),hy.h.kid (List.mem_of_getElem? ht)⟩:XIn ar dl w B n z t).keep f'.sub))
 have HR:=hid hr;clear hr;have m0:(zU m==0)=true:=by rw [hm];rfl
 have m0':(zU m !=0)=false:=by rw [hm];rfl
 have m1:(zU m==1)=false:=by rw [hm];rfl
 clear hm;have HE:=hid hE;have HX:=hid hx;have HY:=hid hy;have IH:=hid ih;have KX:=hid kx;have KY:=hid ky;have HDD:=hid hD;clear hE hx hy hD ih hu kx ky hDk fx nx rx sx fy ny ry sy;obtain ⟨xk,xn,xc,xv,xa,xlen,xcap,xnm⟩:=x;obtain ⟨yk,yn,yc,yv,ya,ylen,ycap,ynm⟩:=y;unfold TyV.val at *;dsimp only at *;have FX:=hid (((Fr.refl F0 w).alloc (.cells #[.int .i64 xk,.int .i64 xn,.int .i64 xc,.bool xv,.slice xa xlen xcap,.string xnm] 26)).alloc (.cells #[.int .i64 yk,.int .i64 yn,.int .i64 yc,.bool yv,.slice ya ylen ycap,.string ynm] 26))
 have BX:=hid ((Below.heap_alloc _ _ _ (by simp)).trans (heap_alloc_new w (.cells #[.int .i64 xk,.int .i64 xn,.int .i64 xc,.bool xv,.slice xa xlen xcap,.string xnm] 26)):((w.alloc (.cells #[.int .i64 xk,.int .i64 xn,.int .i64 xc,.bool xv,.slice xa xlen xcap,.string xnm] 26)).alloc (.cells #[.int .i64 yk,.int .i64 yn,.int .i64 yc,.bool yv,.slice ya ylen ycap,.string ynm] 26)).heap[w.heap.size]?=some (.cells #[.int .i64 xk,.int .i64 xn,.int .i64 xc,.bool xv,.slice xa xlen xcap,.string xnm] 26 (0,0)))
 have BY:=hid (zS w (.cells #[.int .i64 xk,.int .i64 xn,.int .i64 xc,.bool xv,.slice xa xlen xcap,.string xnm] 26) (.cells #[.int .i64 yk,.int .i64 yn,.int .i64 yc,.bool yv,.slice ya ylen ycap,.string ynm] 26));have SZ:=hid (show w.heap.size + 2<=((w.alloc (.cells #[.int .i64 xk,.int .i64 xn,.int .i64 xc,.bool xv,.slice xa xlen xcap,.string xnm] 26)).alloc (.cells #[.int .i64 yk,.int .i64 yn,.int .i64 yc,.bool yv,.slice ya ylen ycap,.string ynm] 26)).heap.size by simp)
 by_cases hal:f=g/\ts.length=us.length;have tg:Fin 10:=0;rotate_left;have tg:Fin 11:=0;rotate_left
 all_goals
  first
  |rename Fin 10=>tg
   have HA:=hid (show xQ (.node f ts) (.node g us)=true from decide_eq_true hal);have HAL:=hid hal;clear hal HR
  |have HA:=hid (show xQ (.node f ts) (.node g us)=false from decide_eq_false hal)
   have hr:r= .fail:=by have:=HR.out;rw [if_neg hal] at this;exact (Option.some.inj this).symm
   subst hr;clear hal HR AA
  go_enter Tryz.func35,Tryz.ntmps35;go_wp2;have qx:=zA BX.out;have qy:=zA BY.out;have sz:=SZ.out;go_wp2;refine zG (Fr B.M ((w.alloc (.cells #[.int .i64 xk,.int .i64 xn,.int .i64 xc,.bool xv,.slice xa xlen xcap,.string xnm] 26)).alloc (.cells #[.int .i64 yk,.int .i64 yn,.int .i64 yc,.bool yv,.slice ya ylen ycap,.string ynm] 26))) [(0,true),(1,true),(2,false),(3,false),(4,true),(5,true),(6,true),(7,true),(8,true),(9,false),(10,false),(11,false),(12,false),(13,false)] [13] yE (by kernel_rfl) (by kernel_rfl) (by kernel_rfl) (by decide) ?_
  clear qx qy sz u4 v4 u0 szu
  iterate 2
   (refine zH _ rfl (Fr.refl _ _).drew (fun w' hS=>by
    have q0:=zA (hS.heap (b:=w.heap.size) (NM.out _ (Nat.le_refl _)) BX.out);have q1:=zA (hS.heap (b:=w.heap.size + 1) (NM.out _ (Nat.le_succ _)) BY.out);clear hS;go_simp;rfl) ?_)
  go_simp;refine zB rfl ?_;go_wp2_with fail
  refine (AL.out _ FX.out.drew).mono ?_;rintro e w7 ⟨rfl,hf3⟩;rw [HA.out];have HF3:=hid hf3;clear hf3;have S3:=hid ((Fr.refl B.M ((w.alloc (.cells #[.int .i64 xk,.int .i64 xn,.int .i64 xc,.bool xv,.slice xa xlen xcap,.string xnm] 26)).alloc (.cells #[.int .i64 yk,.int .i64 yn,.int .i64 yc,.bool yv,.slice ya ylen ycap,.string ynm] 26))).drew.trans HF3.out.sub);go_wp2;refine And.intro (fun _=>S3.out) ?_
  refine zB rfl ?_;go_wp2;refine And.intro (fun _=>S3.out) ?_
  iterate 5
   (refine zH _ rfl S3.out (fun w' hS=>by
    have q0:=zA (hS.heap (b:=w.heap.size) (NM.out _ (Nat.le_refl _)) BX.out);have q1:=zA (hS.heap (b:=w.heap.size + 1) (NM.out _ (Nat.le_succ _)) BY.out);clear hS;go_simp;rfl) ?_)
  go_simp;refine zB rfl ?_;go_wp2;refine And.intro (fun _=>S3.out) ?_;refine zB rfl ?_
  first
  |rename Fin 10=>tg
   go_wp2_with fail
   refine (inner_any m _).mono ?_;rintro e w8 ⟨rfl,hf4⟩;have HF4:=hid hf4;clear hf4;have S4:=hid (S3.out.trans HF4.out.sub);have F4:=hid (FX.out.drew.trans (HF3.out.trans HF4.out))
  |skip
  go_wp2
  first
  |rename Fin 10=>tg
   refine And.intro (fun _=>S4.out) ?_;refine zB rfl ?_;go_wp2_with fail
   refine (AA.out _ F4.out HAL.out).mono ?_;rintro e w9 hp2;have FR:=hid hp2.1;obtain ⟨b,rfl,HP⟩:=hp2.bool F4.out.sub;clear hp2;have S5:=hid (S4.out.trans FR.out);go_wp2;refine And.intro (fun _=>S5.out) ?_
  |refine And.intro (fun _=>S3.out) ?_
  refine zB rfl ?_;go_wp2
  first
  |rename Fin 10=>tg
   refine And.intro (fun _=>S5.out) ?_
  |refine And.intro (fun _=>S3.out) ?_
   refine zB rfl ?_;go_wp2;refine And.intro (fun _=>S3.out) ?_
  refine zB rfl ?_;go_wp2;refine And.intro (fun h=>absurd h (by decide)) ?_;refine zO (NoPanic.normal ?_);go_wp2;go_ret
  first
  |rename Fin 10=>tg
   exact HP.out
  |exact ⟨(FX.out.drew.trans HF3.out).sub,rfl,st,HE.out.U.keep (FX.out.drew.trans HF3.out)⟩
end
end Go.Proofs.YtpekidjfbinekaaGreatDoor
