/- H3 -/
import Derived.Test.YtpekidjfbinekaaGreatDoorA15
import Derived.Test.YtpekidjfbinekaaGreatDoorA16
set_option maxRecDepth 100000
set_option maxHeartbeats 60000000
set_option linter.all false
namespace Go.Proofs.YtpekidjfbinekaaGreatDoor
open Go.RowKit Uni
theorem sw_45:
 (∀ {E:GEnv} {k:Nat} (hS:xU E k) (f:Lab) (ts:List Tm) (g:Lab) (bs:List Tm) (vx vy:Value) (m:Uni.Mode) (w:World) (U bm:Nat) (hd:Nat->Addr) (s:St) (depth:Int) (r:Option St) (o:Int) (a:Act) (w1:World) (hdk:depth + (k + 1:Nat)=50) (h0:0<=depth) (hr:zK (zJ E.D k) (xN E.D k) s f ts g bs m=some r) (hx:PT w E vx (.node f ts)) (hy:PT w E vy (.node g bs)) (hfk:f.kind=4) (hgk:g.kind=4) (h:Sw E w U bm hd s depth m o vx vy a w1),
  Code.wp Tryz.prog yN (bodyPostD Tryz.prog Tryz.f132 (xM w E U bm depth r)) a w1)/\
 (∀ {E:GEnv} {k:Nat} (hS:xU E k) (f:Lab) (ts:List Tm) (g:Lab) (bs:List Tm) (vx vy:Value) (m:Uni.Mode) (w:World) (U bm:Nat) (hd:Nat->Addr) (s:St) (depth:Int) (r:Option St) (o:Int) (a:Act) (w1:World) (hdk:depth + (k + 1:Nat)=50) (h0:0<=depth) (hr:zK (zJ E.D k) (xN E.D k) s f ts g bs m=some r) (hx:PT w E vx (.node f ts)) (hy:PT w E vy (.node g bs)) (hfk:f.kind=5) (hgk:g.kind=5) (h:Sw E w U bm hd s depth m o vx vy a w1),
  Code.wp Tryz.prog yN (bodyPostD Tryz.prog Tryz.f132 (xM w E U bm depth r)) a w1):=by
 refine ⟨@fun E k hS f ts g bs vx vy m w U bm hd s depth r o a w1 hdk h0 hr hx hy hfk hgk h=>have tg:Fin 1:=0;?_,@fun E k hS f ts g bs vx vy m w U bm hd s depth r o a w1 hdk h0 hr hx hy hfk hgk h=>have tg:Fin 2:=0;?_⟩
 all_goals
  obtain ⟨t,ds⟩:=a;obtain ⟨hsz,h1,h2,⟨z,h3,hm⟩,h4,h5,h42,hds,hz,nb,fa,bx,hn,he⟩:=h;dsimp only at hsz h1 h2 h3 h4 h5 h42 hds;subst hds
  first
  |rename Fin 1=>tg
   obtain ⟨xa,v1,t1,rfl,rfl,hxA,kx,px⟩:=hx.inv4 hfk;obtain ⟨ya,v2,t2,rfl,rfl,hyA,ky,py⟩:=hy.inv4 hgk
  |obtain ⟨xa,v1,t1,rfl,rfl,hxA,kx,px⟩:=hx.inv5 hfk
   obtain ⟨ya,v2,t2,rfl,rfl,hyA,ky,py⟩:=hy.inv5 hgk
  have PX:=hid px;have PY:=hid py;clear px py hx hy
  first
  |rename Fin 1=>tg
   rw [node_45 (.inl hfk) (by omega)] at hr
  |rw [node_45 (.inr hfk) (by omega)] at hr
  have HR:=hid hr;clear hr;have HKX:=hid kx;have HKY:=hid ky;have HXA:=hid hxA;have HYA:=hid hyA;clear kx ky hxA hyA hfk hgk;have HS:=hid hS;have HM:=hid hm;have HZ:=hid hz;have NB:=hid nb;have FA2:=hid fa;have BX2:=hid bx;have HN2:=hid hn;have HE2:=hid he;clear hS hz nb fa bx hn he hm;have A179:=zD p179;have A146:=zD p146;have A144:=zD p144
  first
  |rename Fin 1=>tg
   have A156:=zD p156;have A142:=zD p142
  |skip
  obtain ⟨u,rfl,hu⟩:=relit t hsz;have e1:=hu 1 _ h1;have e2:=hu 2 _ h2;have e3:=hu 3 _ h3;have e4:=hu 4 _ h4;have e5:=hu 5 _ h5;have e42:=hu 42 _ h42;clear h1 h2 h3 h4 h5 h42 hu hsz;simp only [fr,e1,e2,e3,e4,e5,e42];clear e1 e2 e3 e4 e5 e42;refine wp_eq (show yN=Code.seq _ _ from rfl) ?_;go_wp2_with fail
  refine wp_abs fun A hA=> ?_
  have fs:A.tmps.size=1016:=by rw [hA];rfl
  have fd:A.defers= [{target:= .fn (.func 161) #[.pointer (some ⟨w.heap.size,0,none⟩)],args:= #[]}]:=by rw [hA]
  obtain ⟨b5,f5⟩:=zN (show A.tmps[5]?=some (.pointer (some ⟨w.heap.size,0,none⟩)) by rw [hA];rfl);obtain ⟨b4,f4⟩:=zN (show A.tmps[4]?=some (.pointer none) by rw [hA];rfl);obtain ⟨b42,f42⟩:=zN (show A.tmps[42]?=some (.int .u64 o) by rw [hA];rfl)
  first
  |rename Fin 1=>tg
   obtain ⟨b59,f59⟩:=zN (show A.tmps[59]?=some (.pointer (some ⟨xa,0,none⟩)) by rw [hA];rfl);obtain ⟨b60,f60⟩:=zN (show A.tmps[60]?=some (.pointer (some ⟨ya,0,none⟩)) by rw [hA];rfl);clear hA A179 A146 A144 A156 A142
  |obtain ⟨b50,f50⟩:=zN (show A.tmps[50]?=some (.pointer (some ⟨xa,0,none⟩)) by rw [hA];rfl)
   obtain ⟨b51,f51⟩:=zN (show A.tmps[51]?=some (.pointer (some ⟨ya,0,none⟩)) by rw [hA];rfl);clear hA A179 A146 A144
  obtain ⟨tA,dA⟩:=A;dsimp only at fs fd;subst fd;have G1: ∀(t:Array Value) (i:Nat) (v:Value),i < t.size->(t.setIfInBounds i v)[i]?=some v:=fun t i v h=>wX h
  have G2: ∀(t:Array Value) (i j:Nat) (v:Value),i≠j->(t.setIfInBounds i v)[j]?=t[j]?:=fun t i j v h=>wG h
  refine wp_pg (Fr E.A w1) [(0,true),(1,true),(2,true),(3,true),(4,true),(5,true),(6,true),(7,true),(8,true),(9,true),(10,true),(11,false),(12,false)] [12] yE (by kernel_rfl) (by kernel_rfl) (by kernel_rfl) (by decide) ?_;refine gl fd ?_ (h1:=fun w' hS=>by
   have q1:=zA (hS.heap (b:=w.heap.size) NB.out BX2.out);have q2:=zA (hS.heap HXA.out (FA2.out.heap HXA.out HKX.out));have q3:=zA (hS.heap HYA.out (FA2.out.heap HYA.out HKY.out));have szw:=bl (q1 0);have szx:=bl (q2 0);have szy:=bl (q3 0);clear hS;go_simp;rfl)
  iterate 3 (refine gl fd ?_)
  refine gl fd ?_ (h1:=fun w' hS=>by
   have q1:=zA (hS.heap (b:=w.heap.size) NB.out BX2.out);have q2:=zA (hS.heap HXA.out (FA2.out.heap HXA.out HKX.out));have q3:=zA (hS.heap HYA.out (FA2.out.heap HYA.out HKY.out));have szw:=bl (q1 0);have szx:=bl (q2 0);have szy:=bl (q3 0);clear hS;go_simp;rfl)
  iterate 3 (refine gl fd ?_)
  refine gl fd ?_ (h1:=fun w' hS=>by
   have q1:=zA (hS.heap (b:=w.heap.size) NB.out BX2.out);have q2:=zA (hS.heap HXA.out (FA2.out.heap HXA.out HKX.out));have q3:=zA (hS.heap HYA.out (FA2.out.heap HYA.out HKY.out));have szw:=bl (q1 0);have szx:=bl (q2 0);have szy:=bl (q3 0);clear hS;go_simp;rfl)
  refine gl fd ?_;refine gl fd ?_;refine gc 132 ?_;refine (HS.out t1 t2 v1 v2 (Uni.inner m) o w1.drew U bm hd s (depth + 1) r (by omega) HR.out HZ.out (HE2.out.keep ((Fr.refl E.A w1).drew)) (HN2.out.keep ((Fr.refl _ w1).drew)) ((PX.out.keep FA2.out).keep ((Fr.refl E.A w1).drew)) ((PY.out.keep FA2.out).keep ((Fr.refl E.A w1).drew))).mono ?_;rintro e w3 ⟨rfl,hf3,s3,hd3,hn3,hs3⟩;have FW3:=hid (((Fr.refl E.A w1).drew).trans hf3)
  have FA3:=hid (FA2.out.trans (((Fr.refl E.A w1).drew).trans hf3));have HN3:=hid hn3;have HS3:=hid hs3;have BX3:=hid (hf3.heap NB.out ((Fr.refl E.A w1).drew.heap NB.out BX2.out));clear hf3 hn3 hs3;refine ⟨_,rfl,fun _=>FW3.out,?_⟩;refine gv (fun h=>absurd h (by decide)) ?_;refine wV ?_;go_wp2;exact door h0 (by omega) (by simp [fs]) FA3.out BX3.out HN3.out HS3.out
theorem sw_0 {E:GEnv}{k:Nat}(hS:xU E k)(f:Lab)(ts:List Tm)(g:Lab)(bs:List Tm)(vx vy:Value)(m:Uni.Mode)(w:World)(U bm:Nat)(hd:Nat->Addr)(s:St)(depth:Int)(r:Option St)(o:Int)(a:Act)(w1:World)(hdk:depth + (k + 1:Nat)=50)(h0:0<=depth)
 (hr:zK (zJ E.D k) (xN E.D k) s f ts g bs m=some r) (hx:PT w E vx (.node f ts)) (hy:PT w E vy (.node g bs)) (hfk:f.kind=0) (hgk:g.kind=0) (h:Sw E w U bm hd s depth m o vx vy a w1):
 Code.wp Tryz.prog yN (bodyPostD Tryz.prog Tryz.f132 (xM w E U bm depth r)) a w1:=by
 obtain ⟨t,ds⟩:=a;obtain ⟨hsz,h1,h2,⟨z,h3,hm⟩,h4,h5,h42,hds,hz,nb,fa,bx,hn,he⟩:=h;dsimp only at hsz h1 h2 h3 h4 h5 h42 hds;subst hds;obtain ⟨xa,ix,nx,rfl,rfl,hxA,kx⟩:=hx.inv0 hfk;obtain ⟨ya,iy,ny,rfl,rfl,hyA,ky⟩:=hy.inv0 hgk;clear hx hy;rw [node_0 hfk hgk] at hr;have hr:=(Option.some.inj hr).symm;obtain ⟨xi,hxi⟩: ∃i:Int,i=(f.n + 1:Nat):=⟨_,rfl⟩;obtain ⟨yi,hyi⟩: ∃i:Int,i=(g.n + 1:Nat):=⟨_,rfl⟩;have hxy:xi=yi↔f.n=g.n:=by omega
 rw [<-hxi] at kx;rw [<-hyi] at ky;clear hxi hyi;have HKX:=hid kx;have HKY:=hid ky;have HXA:=hid hxA;have HYA:=hid hyA;clear kx ky hxA hyA hfk hgk;have HS:=hid hS;have HM:=hid hm;have HZ:=hid hz;have NB:=hid nb;have FA2:=hid fa;have BX2:=hid bx;have HN2:=hid hn;have HE2:=hid he;clear hS hz nb fa bx hn he hm;have A179:=zD p179;obtain ⟨u,rfl,hu⟩:=relit t hsz;have e1:=hu 1 _ h1;have e2:=hu 2 _ h2;have e3:=hu 3 _ h3;have e4:=hu 4 _ h4;have e5:=hu 5 _ h5;have e42:=hu 42 _ h42
 clear h1 h2 h3 h4 h5 h42 hu hsz;simp only [fr,e1,e2,e3,e4,e5,e42];clear e1 e2 e3 e4 e5 e42;refine wp_eq (show yN=Code.seq _ _ from rfl) ?_;go_wp2_with fail
 refine wp_abs fun A hA=> ?_
 have fs:A.tmps.size=1016:=by rw [hA];rfl
 have fd:A.defers= [{target:= .fn (.func 161) #[.pointer (some ⟨w.heap.size,0,none⟩)],args:= #[]}]:=by rw [hA]
 obtain ⟨b5,f5⟩:=zN (show A.tmps[5]?=some (.pointer (some ⟨w.heap.size,0,none⟩)) by rw [hA];rfl);obtain ⟨b4,f4⟩:=zN (show A.tmps[4]?=some (.pointer none) by rw [hA];rfl);obtain ⟨b42,f42⟩:=zN (show A.tmps[42]?=some (.int .u64 o) by rw [hA];rfl);obtain ⟨b44,f44⟩:=zN (show A.tmps[44]?=some (.pointer (some ⟨xa,0,none⟩)) by rw [hA];rfl);obtain ⟨b45,f45⟩:=zN (show A.tmps[45]?=some (.pointer (some ⟨ya,0,none⟩)) by rw [hA];rfl)
 clear hA A179;obtain ⟨tA,dA⟩:=A;dsimp only at fs fd;subst fd;have G1: ∀(t:Array Value) (i:Nat) (v:Value),i < t.size->(t.setIfInBounds i v)[i]?=some v:=fun t i v h=>wX h
 have G2: ∀(t:Array Value) (i j:Nat) (v:Value),i≠j->(t.setIfInBounds i v)[j]?=t[j]?:=fun t i j v h=>wG h
 refine wp_pg (Fr E.A w1) [(0,true),(1,true),(2,true),(3,true),(4,true),(5,true),(6,true),(7,true),(8,true),(9,true)] [] yE (by kernel_rfl) (by kernel_rfl) (by kernel_rfl) (by decide) ?_;by_cases hfg:f.n=g.n
 case pos=>
  have hyx:xi=yi:=hxy.2 hfg;subst hyx;rw [if_pos hfg] at hr;subst hr;clear hxy hfg
  iterate 3 (refine gl fd ?_)
  refine gl fd ?_ (h1:=fun w' hS=>by
   have q1:=zA (hS.heap (b:=w.heap.size) NB.out BX2.out);have q2:=zA (hS.heap HXA.out (FA2.out.heap HXA.out HKX.out));have q3:=zA (hS.heap HYA.out (FA2.out.heap HYA.out HKY.out));have szw:=bl (q1 0);have szx:=bl (q2 0);have szy:=bl (q3 0);clear hS;go_simp;rfl)
  iterate 3 (refine gl fd ?_)
  refine gl fd ?_ (h1:=fun w' hS=>by
   have q1:=zA (hS.heap (b:=w.heap.size) NB.out BX2.out);have q2:=zA (hS.heap HXA.out (FA2.out.heap HXA.out HKX.out));have q3:=zA (hS.heap HYA.out (FA2.out.heap HYA.out HKY.out));have szw:=bl (q1 0);have szx:=bl (q2 0);have szy:=bl (q3 0);clear hS;go_simp;rfl)
  refine gl fd ?_;refine gl fd ?_;refine wV ?_;go_wp2;exact door h0 (by omega) (by simp [fs]) (FA2.out.trans ((Fr.refl _ _).drew)) (((Fr.refl E.A w1).drew).heap NB.out BX2.out) (HN2.out.keep ((Fr.refl _ w1).drew)) (fun s1 h=>by simpa using h)
 case neg=>
  have hyx: ¬xi=yi:=fun h=>hfg (hxy.1 h)
  have hb:(xi==yi)=false:=by simp [hyx]
  rw [if_neg hfg] at hr;subst hr;clear hxy hfg
  iterate 3 (refine gl fd ?_)
  refine gl fd ?_ (h1:=fun w' hS=>by
   have q1:=zA (hS.heap (b:=w.heap.size) NB.out BX2.out);have q2:=zA (hS.heap HXA.out (FA2.out.heap HXA.out HKX.out));have q3:=zA (hS.heap HYA.out (FA2.out.heap HYA.out HKY.out));have szw:=bl (q1 0);have szx:=bl (q2 0);have szy:=bl (q3 0);clear hS;go_simp;rfl)
  iterate 3 (refine gl fd ?_)
  refine gl fd ?_ (h1:=fun w' hS=>by
   have q1:=zA (hS.heap (b:=w.heap.size) NB.out BX2.out);have q2:=zA (hS.heap HXA.out (FA2.out.heap HXA.out HKX.out));have q3:=zA (hS.heap HYA.out (FA2.out.heap HYA.out HKY.out));have szw:=bl (q1 0);have szx:=bl (q2 0);have szy:=bl (q3 0);clear hS;go_simp;rfl)
  refine gl fd ?_;refine gl fd ?_;refine wV ?_;go_wp2;exact door h0 (by omega) (by simp [fs]) (FA2.out.trans ((Fr.refl _ _).drew)) (((Fr.refl E.A w1).drew).heap NB.out BX2.out) (HN2.out.keep ((Fr.refl _ w1).drew)) (fun s1 h=>by cases h)
theorem sw_6 {E:GEnv}{k:Nat}(hS:xU E k)(f:Lab)(ts:List Tm)(g:Lab)(bs:List Tm)(vx vy:Value)(m:Uni.Mode)(w:World)(U bm:Nat)(hd:Nat->Addr)(s:St)(depth:Int)(r:Option St)(o:Int)(a:Act)(w1:World)(hdk:depth + (k + 1:Nat)=50)(h0:0<=depth)
 (hr:zK (zJ E.D k) (xN E.D k) s f ts g bs m=some r) (hx:PT w E vx (.node f ts)) (hy:PT w E vy (.node g bs)) (hfk:f.kind=6) (hgk:g.kind=6) (h:Sw E w U bm hd s depth m o vx vy a w1):
 Code.wp Tryz.prog yN (bodyPostD Tryz.prog Tryz.f132 (xM w E U bm depth r)) a w1:=by
 obtain ⟨t,ds⟩:=a;obtain ⟨hsz,h1,h2,⟨z,h3,hm⟩,h4,h5,h42,hds,hz,nb,fa,bx,hn,he⟩:=h;dsimp only at hsz h1 h2 h3 h4 h5 h42 hds;subst hds;obtain ⟨xa,v1,t1,rfl,rfl,hxA,kx,px⟩:=hx.inv6 hfk;obtain ⟨ya,v2,t2,rfl,rfl,hyA,ky,py⟩:=hy.inv6 hgk;have PX:=hid px;have PY:=hid py;clear px py hx hy;obtain ⟨xi,hxi⟩: ∃i:Int,i=f.n:=⟨_,rfl⟩;obtain ⟨yi,hyi⟩: ∃i:Int,i=g.n:=⟨_,rfl⟩;have hxy:xi=yi↔f.n=g.n:=by omega
 have xnn: ¬xi < 0:=by omega
 have ynn: ¬yi < 0:=by omega
 rw [<-hxi] at kx;rw [<-hyi] at ky;clear hxi hyi;have HRE:=hid (fun (h:f.n=g.n)=>(node_6 (step:=zJ E.D k) (zQ:=xN E.D k) (s:=s) (m:=m) hfk hgk h t1 t2).symm.trans hr);have HRN:=hid (fun (h:f.n≠g.n)=>(node_6n (step:=zJ E.D k) (zQ:=xN E.D k) (s:=s) (m:=m) hfk hgk h [t1] [t2]).symm.trans hr);clear hr;have HKX:=hid kx;have HKY:=hid ky;have HXA:=hid hxA;have HYA:=hid hyA;clear kx ky hxA hyA hfk hgk;have HS:=hid hS;have HM:=hid hm
 have HZ:=hid hz;have NB:=hid nb;have FA2:=hid fa;have BX2:=hid bx;have HN2:=hid hn;have HE2:=hid he;clear hS hz nb fa bx hn he hm;have A179:=zD p179;have A146:=zD p146;obtain ⟨u,rfl,hu⟩:=relit t hsz;have e1:=hu 1 _ h1;have e2:=hu 2 _ h2;have e3:=hu 3 _ h3;have e4:=hu 4 _ h4;have e5:=hu 5 _ h5;have e42:=hu 42 _ h42;clear h1 h2 h3 h4 h5 h42 hu hsz;simp only [fr,e1,e2,e3,e4,e5,e42];clear e1 e2 e3 e4 e5 e42
 refine wp_eq (show yN=Code.seq _ _ from rfl) ?_;go_wp2_with fail
 refine wp_abs fun A hA=> ?_
 have fs:A.tmps.size=1016:=by rw [hA];rfl
 have fd:A.defers= [{target:= .fn (.func 161) #[.pointer (some ⟨w.heap.size,0,none⟩)],args:= #[]}]:=by rw [hA]
 obtain ⟨b5,f5⟩:=zN (show A.tmps[5]?=some (.pointer (some ⟨w.heap.size,0,none⟩)) by rw [hA];rfl);obtain ⟨b4,f4⟩:=zN (show A.tmps[4]?=some (.pointer none) by rw [hA];rfl);obtain ⟨b42,f42⟩:=zN (show A.tmps[42]?=some (.int .u64 o) by rw [hA];rfl);obtain ⟨b47,f47⟩:=zN (show A.tmps[47]?=some (.pointer (some ⟨xa,0,none⟩)) by rw [hA];rfl);obtain ⟨b48,f48⟩:=zN (show A.tmps[48]?=some (.pointer (some ⟨ya,0,none⟩)) by rw [hA];rfl)
 clear hA A179 A146;obtain ⟨tA,dA⟩:=A;dsimp only at fs fd;subst fd;have G1: ∀(t:Array Value) (i:Nat) (v:Value),i < t.size->(t.setIfInBounds i v)[i]?=some v:=fun t i v h=>wX h
 have G2: ∀(t:Array Value) (i j:Nat) (v:Value),i≠j->(t.setIfInBounds i v)[j]?=t[j]?:=fun t i j v h=>wG h
 have hlx:(decide (xi < 0))=false:=by simp;omega
 have hly:(decide (yi < 0))=false:=by simp;omega
 clear xnn ynn;refine wp_pg (Fr E.A w1) [(0,true),(1,true),(2,true),(3,true),(4,true),(5,true),(6,true),(7,true),(8,true),(9,true),(10,true),(11,true),(12,true),(13,true),(14,true),(15,true),(16,true),(17,true),(18,true),(19,true),(20,true),(21,true),(22,true),(23,true),(24,true),(25,true),(26,true),(27,true),(28,true),(29,true),(30,true),(31,true),(32,true),(33,true),(34,true),(35,false),(36,false),(37,false)] [37] yE (by kernel_rfl) (by kernel_rfl) (by kernel_rfl) (by decide) ?_
 by_cases hfg:f.n=g.n
 case pos=>
  have hyx:xi=yi:=hxy.2 hfg;subst hyx;clear hly;have HR:=hid (HRE.out hfg);clear hxy hfg
  iterate 3 (refine gl fd ?_)
  refine gl fd ?_ (h1:=fun w' hS=>by
   have q1:=zA (hS.heap (b:=w.heap.size) NB.out BX2.out);have q2:=zA (hS.heap HXA.out (FA2.out.heap HXA.out HKX.out));have q3:=zA (hS.heap HYA.out (FA2.out.heap HYA.out HKY.out));have szw:=bl (q1 0);have szx:=bl (q2 0);have szy:=bl (q3 0);clear hS;go_simp;rfl)
  iterate 5 (refine gl fd ?_)
  refine gl fd ?_ (h1:=fun w' hS=>by
   have q1:=zA (hS.heap (b:=w.heap.size) NB.out BX2.out);have q2:=zA (hS.heap HXA.out (FA2.out.heap HXA.out HKX.out));have q3:=zA (hS.heap HYA.out (FA2.out.heap HYA.out HKY.out));have szw:=bl (q1 0);have szx:=bl (q2 0);have szy:=bl (q3 0);clear hS;go_simp;rfl)
  iterate 6 (refine gl fd ?_)
  refine gl fd ?_ (h1:=fun w' hS=>by
   have q1:=zA (hS.heap (b:=w.heap.size) NB.out BX2.out);have q2:=zA (hS.heap HXA.out (FA2.out.heap HXA.out HKX.out));have q3:=zA (hS.heap HYA.out (FA2.out.heap HYA.out HKY.out));have szw:=bl (q1 0);have szx:=bl (q2 0);have szy:=bl (q3 0);clear hS;go_simp;rfl)
  iterate 3 (refine gl fd ?_)
  refine gl fd ?_ (h1:=fun w' hS=>by
   have q1:=zA (hS.heap (b:=w.heap.size) NB.out BX2.out);have q2:=zA (hS.heap HXA.out (FA2.out.heap HXA.out HKX.out));have q3:=zA (hS.heap HYA.out (FA2.out.heap HYA.out HKY.out));have szw:=bl (q1 0);have szx:=bl (q2 0);have szy:=bl (q3 0);clear hS;go_simp;rfl)
  iterate 3 (refine gl fd ?_)
  refine gl fd ?_ (h1:=fun w' hS=>by
   have q1:=zA (hS.heap (b:=w.heap.size) NB.out BX2.out);have q2:=zA (hS.heap HXA.out (FA2.out.heap HXA.out HKX.out));have q3:=zA (hS.heap HYA.out (FA2.out.heap HYA.out HKY.out));have szw:=bl (q1 0);have szx:=bl (q2 0);have szy:=bl (q3 0);clear hS;go_simp;rfl)
  iterate 3 (refine gl fd ?_)
  refine gl fd ?_ (h1:=fun w' hS=>by
   have q1:=zA (hS.heap (b:=w.heap.size) NB.out BX2.out);have q2:=zA (hS.heap HXA.out (FA2.out.heap HXA.out HKX.out));have q3:=zA (hS.heap HYA.out (FA2.out.heap HYA.out HKY.out));have szw:=bl (q1 0);have szx:=bl (q2 0);have szy:=bl (q3 0);clear hS;go_simp;rfl)
  iterate 3 (refine gl fd ?_)
  refine gl fd ?_ (h1:=fun w' hS=>by
   have q1:=zA (hS.heap (b:=w.heap.size) NB.out BX2.out);have q2:=zA (hS.heap HXA.out (FA2.out.heap HXA.out HKX.out));have q3:=zA (hS.heap HYA.out (FA2.out.heap HYA.out HKY.out));have szw:=bl (q1 0);have szx:=bl (q2 0);have szy:=bl (q3 0);clear hS;go_simp;rfl)
  refine gl fd ?_;refine gl fd ?_;refine gc 132 ?_;refine (HS.out t1 t2 v1 v2 (Uni.inner m) o w1.drew U bm hd s (depth + 1) r (by omega) HR.out HZ.out (HE2.out.keep ((Fr.refl E.A w1).drew)) (HN2.out.keep ((Fr.refl _ w1).drew)) ((PX.out.keep FA2.out).keep ((Fr.refl E.A w1).drew)) ((PY.out.keep FA2.out).keep ((Fr.refl E.A w1).drew))).mono ?_;rintro e w3 ⟨rfl,hf3,s3,hd3,hn3,hs3⟩;have FW3:=hid (((Fr.refl E.A w1).drew).trans hf3)
  have FA3:=hid (FA2.out.trans (((Fr.refl E.A w1).drew).trans hf3));have HN3:=hid hn3;have HS3:=hid hs3;have BX3:=hid (hf3.heap NB.out ((Fr.refl E.A w1).drew.heap NB.out BX2.out));clear hf3 hn3 hs3;refine ⟨_,rfl,fun _=>FW3.out,?_⟩;refine gv (fun _=>FW3.out) ?_;refine gv (fun h=>absurd h (by decide)) ?_;refine wV ?_;go_wp2;exact door h0 (by omega) (by simp [fs]) FA3.out BX3.out HN3.out HS3.out
 case neg=>
  have hyx: ¬xi=yi:=fun h=>hfg (hxy.1 h)
  have hb:(xi==yi)=false:=by simp [hyx]
  have hrn:=(Option.some.inj (HRN.out hfg)).symm;subst hrn;clear hxy hfg
  iterate 3 (refine gl fd ?_)
  refine gl fd ?_ (h1:=fun w' hS=>by
   have q1:=zA (hS.heap (b:=w.heap.size) NB.out BX2.out);have q2:=zA (hS.heap HXA.out (FA2.out.heap HXA.out HKX.out));have q3:=zA (hS.heap HYA.out (FA2.out.heap HYA.out HKY.out));have szw:=bl (q1 0);have szx:=bl (q2 0);have szy:=bl (q3 0);clear hS;go_simp;rfl)
  iterate 5 (refine gl fd ?_)
  refine gl fd ?_ (h1:=fun w' hS=>by
   have q1:=zA (hS.heap (b:=w.heap.size) NB.out BX2.out);have q2:=zA (hS.heap HXA.out (FA2.out.heap HXA.out HKX.out));have q3:=zA (hS.heap HYA.out (FA2.out.heap HYA.out HKY.out));have szw:=bl (q1 0);have szx:=bl (q2 0);have szy:=bl (q3 0);clear hS;go_simp;rfl)
  iterate 6 (refine gl fd ?_)
  refine gl fd ?_ (h1:=fun w' hS=>by
   have q1:=zA (hS.heap (b:=w.heap.size) NB.out BX2.out);have q2:=zA (hS.heap HXA.out (FA2.out.heap HXA.out HKX.out));have q3:=zA (hS.heap HYA.out (FA2.out.heap HYA.out HKY.out));have szw:=bl (q1 0);have szx:=bl (q2 0);have szy:=bl (q3 0);clear hS;go_simp;rfl)
  iterate 3 (refine gl fd ?_)
  refine gl fd ?_ (h1:=fun w' hS=>by
   have q1:=zA (hS.heap (b:=w.heap.size) NB.out BX2.out);have q2:=zA (hS.heap HXA.out (FA2.out.heap HXA.out HKX.out));have q3:=zA (hS.heap HYA.out (FA2.out.heap HYA.out HKY.out));have szw:=bl (q1 0);have szx:=bl (q2 0);have szy:=bl (q3 0);clear hS;go_simp;rfl)
  iterate 3 (refine gl fd ?_)
  iterate 11 (refine gn fd ?_)
  refine gu (fun _=>fd) ?_;refine gv (fun _=>fd) ?_;refine gv (fun h=>absurd h (by decide)) ?_;refine wV ?_;go_wp2;exact door h0 (by omega) (by simp [fs]) (FA2.out.trans ((Fr.refl _ _).drew)) (((Fr.refl E.A w1).drew).heap NB.out BX2.out) (HN2.out.keep ((Fr.refl _ w1).drew)) (fun s1 h=>by cases h)
theorem sw_7 {E:GEnv}{k:Nat}(hS:xU E k)(f:Lab)(ts:List Tm)(g:Lab)(bs:List Tm)(vx vy:Value)(m:Uni.Mode)(w:World)(U bm:Nat)(hd:Nat->Addr)(s:St)(depth:Int)(r:Option St)(o:Int)(a:Act)(w1:World)(hdk:depth + (k + 1:Nat)=50)(h0:0<=depth)
 (hr:zK (zJ E.D k) (xN E.D k) s f ts g bs m=some r) (hx:PT w E vx (.node f ts)) (hy:PT w E vy (.node g bs)) (hfk:f.kind=7) (hgk:g.kind=7) (h:Sw E w U bm hd s depth m o vx vy a w1):
 Code.wp Tryz.prog yN (bodyPostD Tryz.prog Tryz.f132 (xM w E U bm depth r)) a w1:=by
 obtain ⟨t,ds⟩:=a;obtain ⟨hsz,h1,h2,⟨z,h3,hm⟩,h4,h5,h42,hds,hz,nb,fa,bx,hn,he⟩:=h;dsimp only at hsz h1 h2 h3 h4 h5 h42 hds;subst hds;obtain ⟨xa,v1,v1',t1,t1',rfl,rfl,hxA,kx,px,px'⟩:=hx.inv7 hfk;obtain ⟨ya,v2,v2',t2,t2',rfl,rfl,hyA,ky,py,py'⟩:=hy.inv7 hgk;have PX:=hid px;have PY:=hid py;have PX':=hid px';have PY':=hid py';clear px py px' py' hx hy;rw [node_7 hfk hgk] at hr;obtain ⟨q1,hq1⟩: ∃q,zJ E.D k s t1 t2 (Uni.inner m)=some q:=by
  cases h:zJ E.D k s t1 t2 (Uni.inner m) with
  |none=>rw [h] at hr;cases hr
  |some q=>exact ⟨q,rfl⟩
 have HQ1:=hid hq1;rw [hq1] at hr;have HR:=hid hr;clear hr hq1;have HKX:=hid kx;have HKY:=hid ky;have HXA:=hid hxA;have HYA:=hid hyA;clear kx ky hxA hyA hfk hgk;have HS:=hid hS;have HM:=hid hm;have HZ:=hid hz;have NB:=hid nb;have FA2:=hid fa;have BX2:=hid bx;have HN2:=hid hn;have HE2:=hid he;clear hS hz nb fa bx hn he hm;have A179:=zD p179;have A146:=zD p146;have A144:=zD p144;have A156:=zD p156;have A142:=zD p142
 have A134:=zD p134;have A128:=zD p128;have A99:=zD p99;have A148:=zD p148;obtain ⟨u,rfl,hu⟩:=relit t hsz;have e1:=hu 1 _ h1;have e2:=hu 2 _ h2;have e3:=hu 3 _ h3;have e4:=hu 4 _ h4;have e5:=hu 5 _ h5;have e42:=hu 42 _ h42;clear h1 h2 h3 h4 h5 h42 hu hsz;simp only [fr,e1,e2,e3,e4,e5,e42];clear e1 e2 e3 e4 e5 e42;refine wp_eq (show yN=Code.seq _ _ from rfl) ?_;go_wp2_with fail
 refine wp_abs fun A hA=> ?_
 have fs:A.tmps.size=1016:=by rw [hA];rfl
 have fd:A.defers= [{target:= .fn (.func 161) #[.pointer (some ⟨w.heap.size,0,none⟩)],args:= #[]}]:=by rw [hA]
 obtain ⟨b5,f5⟩:=zN (show A.tmps[5]?=some (.pointer (some ⟨w.heap.size,0,none⟩)) by rw [hA];rfl);obtain ⟨b4,f4⟩:=zN (show A.tmps[4]?=some (.pointer none) by rw [hA];rfl);obtain ⟨b42,f42⟩:=zN (show A.tmps[42]?=some (.int .u64 o) by rw [hA];rfl);obtain ⟨b82,f82⟩:=zN (show A.tmps[82]?=some (.pointer (some ⟨xa,0,none⟩)) by rw [hA];rfl);obtain ⟨b83,f83⟩:=zN (show A.tmps[83]?=some (.pointer (some ⟨ya,0,none⟩)) by rw [hA];rfl)
 clear hA A179 A146 A144 A156 A142 A134 A128 A99 A148;obtain ⟨tA,dA⟩:=A;dsimp only at fs fd;subst fd;have G1: ∀(t:Array Value) (i:Nat) (v:Value),i < t.size->(t.setIfInBounds i v)[i]?=some v:=fun t i v h=>wX h
 have G2: ∀(t:Array Value) (i j:Nat) (v:Value),i≠j->(t.setIfInBounds i v)[j]?=t[j]?:=fun t i j v h=>wG h
 refine wp_pg (Fr E.A w1) [(0,true),(1,true),(2,true),(3,true),(4,true),(5,true),(6,true),(7,true),(8,true),(9,true),(10,true),(11,false),(12,false),(13,true),(14,true),(15,true),(16,true),(17,true),(18,true),(19,true),(20,true),(21,true),(22,true),(23,false),(24,false),(25,false),(26,false)] [26] yE (by kernel_rfl) (by kernel_rfl) (by kernel_rfl) (by decide) ?_;refine gl fd ?_ (h1:=fun w' hS=>by
  have q1:=zA (hS.heap (b:=w.heap.size) NB.out BX2.out);have q2:=zA (hS.heap HXA.out (FA2.out.heap HXA.out HKX.out));have q3:=zA (hS.heap HYA.out (FA2.out.heap HYA.out HKY.out));have szw:=bl (q1 0);have szx:=bl (q2 0);have szy:=bl (q3 0);clear hS;go_simp;rfl)
 iterate 3 (refine gl fd ?_)
 refine gl fd ?_ (h1:=fun w' hS=>by
  have q1:=zA (hS.heap (b:=w.heap.size) NB.out BX2.out);have q2:=zA (hS.heap HXA.out (FA2.out.heap HXA.out HKX.out));have q3:=zA (hS.heap HYA.out (FA2.out.heap HYA.out HKY.out));have szw:=bl (q1 0);have szx:=bl (q2 0);have szy:=bl (q3 0);clear hS;go_simp;rfl)
 iterate 3 (refine gl fd ?_)
 refine gl fd ?_ (h1:=fun w' hS=>by
  have q1:=zA (hS.heap (b:=w.heap.size) NB.out BX2.out);have q2:=zA (hS.heap HXA.out (FA2.out.heap HXA.out HKX.out));have q3:=zA (hS.heap HYA.out (FA2.out.heap HYA.out HKY.out));have szw:=bl (q1 0);have szx:=bl (q2 0);have szy:=bl (q3 0);clear hS;go_simp;rfl)
 refine gl fd ?_;refine gl fd ?_;refine gc 132 ?_;refine (HS.out t1 t2 v1 v2 (Uni.inner m) o w1.drew U bm hd s (depth + 1) q1 (by omega) HQ1.out HZ.out (HE2.out.keep ((Fr.refl E.A w1).drew)) (HN2.out.keep ((Fr.refl _ w1).drew)) ((PX.out.keep FA2.out).keep ((Fr.refl E.A w1).drew)) ((PY.out.keep FA2.out).keep ((Fr.refl E.A w1).drew))).mono ?_;rintro e w3 ⟨rfl,hf3,s3,hd3,hn3,hs3⟩;have FW3:=hid (((Fr.refl E.A w1).drew).trans hf3)
 have FA3:=hid (FA2.out.trans (((Fr.refl E.A w1).drew).trans hf3));have HN3:=hid hn3;have HS3:=hid hs3;have BX3:=hid (hf3.heap NB.out ((Fr.refl E.A w1).drew.heap NB.out BX2.out));clear hf3 hn3 hs3;refine ⟨_,rfl,fun _=>FW3.out,?_⟩
 cases q1 with
 |none=>
  have hrn:r=none:=(Option.some.inj HR.out).symm;subst hrn;refine gv (fun _=>FW3.out) ?_
  iterate 10 (refine gn FW3.out ?_)
  refine gu (fun _=>FW3.out) ?_;refine gu (fun _=>FW3.out) ?_;refine gv (fun _=>FW3.out) ?_;refine gv (fun h=>absurd h (by decide)) ?_;refine wV ?_;go_wp2;exact door h0 (by omega) (by simp [fs]) FA3.out BX3.out HN3.out (fun s1 h=>by cases h)
 |some s3'=>
  have HR2:=hid (show zJ E.D k s3' t1' t2' (Uni.inner m)=some r from HR.out);have hs4:=HS3.out s3' rfl;subst hs4;refine gv (fun _=>FW3.out) ?_;refine gl FW3.out ?_ (h1:=fun w' hS=>by
   have q1:=zA (hS.heap (b:=w.heap.size) NB.out BX2.out);have q2:=zA (hS.heap HXA.out (FA2.out.heap HXA.out HKX.out));have q3:=zA (hS.heap HYA.out (FA2.out.heap HYA.out HKY.out));have szw:=bl (q1 0);have szx:=bl (q2 0);have szy:=bl (q3 0);clear hS;go_simp;rfl)
  iterate 3 (refine gl FW3.out ?_)
  refine gl FW3.out ?_ (h1:=fun w' hS=>by
   have q1:=zA (hS.heap (b:=w.heap.size) NB.out BX2.out);have q2:=zA (hS.heap HXA.out (FA2.out.heap HXA.out HKX.out));have q3:=zA (hS.heap HYA.out (FA2.out.heap HYA.out HKY.out));have szw:=bl (q1 0);have szx:=bl (q2 0);have szy:=bl (q3 0);clear hS;go_simp;rfl)
  iterate 3 (refine gl FW3.out ?_)
  refine gl FW3.out ?_ (h1:=fun w' hS=>by
   have q1:=zA (hS.heap (b:=w.heap.size) NB.out BX2.out);have q2:=zA (hS.heap HXA.out (FA2.out.heap HXA.out HKX.out));have q3:=zA (hS.heap HYA.out (FA2.out.heap HYA.out HKY.out));have szw:=bl (q1 0);have szx:=bl (q2 0);have szy:=bl (q3 0);clear hS;go_simp;rfl)
  refine gl FW3.out ?_;refine gv (fun _=>FW3.out) ?_;refine gc 132 ?_;refine (HS.out t1' t2' v1' v2' (Uni.inner m) o _ U bm hd3 s3 (depth + 1) r (by omega) HR2.out HZ.out (HE2.out.keep FW3.out) HN3.out (PX'.out.keep FA3.out) (PY'.out.keep FA3.out)).mono ?_;rintro e w4 ⟨rfl,hf4,s4,hd4,hn4,hs4⟩;have FW4:=hid (FW3.out.trans hf4);have FA4:=hid (FA3.out.trans hf4);have HN4:=hid hn4;have HS4:=hid hs4;have BX4:=hid (hf4.heap NB.out BX3.out)
  clear hf4 hn4 hs4;refine ⟨_,rfl,fun _=>FW4.out,?_⟩;refine gv (fun _=>FW4.out) ?_;refine gv (fun h=>absurd h (by decide)) ?_;refine wV ?_;go_wp2;exact door h0 (by omega) (by simp [fs]) FA4.out BX4.out HN4.out HS4.out
theorem sw_8 {E:GEnv}{k:Nat}(hS:xU E k)(f:Lab)(ts:List Tm)(g:Lab)(bs:List Tm)(vx vy:Value)(m:Uni.Mode)(w:World)(U bm:Nat)(hd:Nat->Addr)(s:St)(depth:Int)(r:Option St)(o:Int)(a:Act)(w1:World)(hdk:depth + (k + 1:Nat)=50)(h0:0<=depth)
 (hr:zK (zJ E.D k) (xN E.D k) s f ts g bs m=some r) (hx:PT w E vx (.node f ts)) (hy:PT w E vy (.node g bs)) (hfk:f.kind=8) (hgk:g.kind=8) (h:Sw E w U bm hd s depth m o vx vy a w1):
 Code.wp Tryz.prog yN (bodyPostD Tryz.prog Tryz.f132 (xM w E U bm depth r)) a w1:=by
 obtain ⟨t,ds⟩:=a;obtain ⟨hsz,h1,h2,⟨z,h3,hm⟩,h4,h5,h42,hds,hz,nb,fa,bx,hn,he⟩:=h;dsimp only at hsz h1 h2 h3 h4 h5 h42 hds;subst hds;obtain ⟨xa,v1,t1,rfl,rfl,hxA,kx,px⟩:=hx.inv8 hfk;obtain ⟨ya,v2,t2,rfl,rfl,hyA,ky,py⟩:=hy.inv8 hgk;have PX:=hid px;have PY:=hid py;clear px py hx hy;obtain ⟨xi,hxi⟩: ∃i:Int,i=f.n:=⟨_,rfl⟩;obtain ⟨yi,hyi⟩: ∃i:Int,i=g.n:=⟨_,rfl⟩;have hxy:xi=yi↔f.n=g.n:=by omega
 have xnn: ¬xi < 0:=by omega
 have ynn: ¬yi < 0:=by omega
 rw [<-hxi] at kx;rw [<-hyi] at ky;clear hxi hyi;have HRE:=hid (fun (h: ¬(m= .exact/\f.n≠g.n))=>(node_8 (step:=zJ E.D k) (zQ:=xN E.D k) (s:=s) (m:=m) hfk hgk h t1 t2).symm.trans hr);have HRN:=hid (fun (h:m= .exact/\f.n≠g.n)=>(node_8n (step:=zJ E.D k) (zQ:=xN E.D k) (s:=s) (m:=m) hfk hgk h [t1] [t2]).symm.trans hr);clear hr xnn ynn;have HKX:=hid kx;have HKY:=hid ky;have HXA:=hid hxA;have HYA:=hid hyA;clear kx ky hxA hyA hfk hgk
 have HS:=hid hS;have HM:=hid hm;have HZ:=hid hz;have NB:=hid nb;have FA2:=hid fa;have BX2:=hid bx;have HN2:=hid hn;have HE2:=hid he;clear hS hz nb fa bx hn he hm;have A179:=zD p179;have A146:=zD p146;have A144:=zD p144;have A156:=zD p156;have A142:=zD p142;have A134:=zD p134;have A128:=zD p128;have A99:=zD p99;have A148:=zD p148;have A150:=zD p150;obtain ⟨u,rfl,hu⟩:=relit t hsz;have e1:=hu 1 _ h1;have e2:=hu 2 _ h2;have e3:=hu 3 _ h3;have e4:=hu 4 _ h4;have e5:=hu 5 _ h5;have e42:=hu 42 _ h42
 clear h1 h2 h3 h4 h5 h42 hu hsz;simp only [fr,e1,e2,e3,e4,e5,e42];clear e1 e2 e3 e4 e5 e42;refine wp_eq (show yN=Code.seq _ _ from rfl) ?_;go_wp2_with fail
 refine wp_abs fun A hA=> ?_
 have fs:A.tmps.size=1016:=by rw [hA];rfl
 have fd:A.defers= [{target:= .fn (.func 161) #[.pointer (some ⟨w.heap.size,0,none⟩)],args:= #[]}]:=by rw [hA]
 obtain ⟨b5,f5⟩:=zN (show A.tmps[5]?=some (.pointer (some ⟨w.heap.size,0,none⟩)) by rw [hA];rfl);obtain ⟨b4,f4⟩:=zN (show A.tmps[4]?=some (.pointer none) by rw [hA];rfl);obtain ⟨b42,f42⟩:=zN (show A.tmps[42]?=some (.int .u64 o) by rw [hA];rfl);obtain ⟨b3,f3⟩:=zN (show A.tmps[3]?=some (.int .u64 z) by rw [hA];rfl);obtain ⟨b85,f85⟩:=zN (show A.tmps[85]?=some (.pointer (some ⟨xa,0,none⟩)) by rw [hA];rfl)
 obtain ⟨b86,f86⟩:=zN (show A.tmps[86]?=some (.pointer (some ⟨ya,0,none⟩)) by rw [hA];rfl);clear hA A179 A146 A144 A156 A142 A134 A128 A99 A148 A150;obtain ⟨tA,dA⟩:=A;dsimp only at fs fd;subst fd;have G1: ∀(t:Array Value) (i:Nat) (v:Value),i < t.size->(t.setIfInBounds i v)[i]?=some v:=fun t i v h=>wX h
 have G2: ∀(t:Array Value) (i j:Nat) (v:Value),i≠j->(t.setIfInBounds i v)[j]?=t[j]?:=fun t i j v h=>wG h
 refine wp_pg (Fr E.A w1) [(0,true),(1,true),(2,true),(3,true),(4,true),(5,true),(6,true),(7,true),(8,true),(9,true),(10,true),(11,true),(12,true),(13,true),(14,true),(15,true),(16,true),(17,true),(18,true),(19,true),(20,true),(21,true),(22,true),(23,true),(24,true),(25,true),(26,false),(27,false),(28,false)] [28] yE (by kernel_rfl) (by kernel_rfl) (by kernel_rfl) (by decide) ?_;by_cases hex:m= .exact
 case neg=>
  have hand:=and2_in HM.out hex;have HR:=hid (HRE.out (fun h=>hex h.1));clear hxy
  iterate 4 (refine gl fd ?_)
  iterate 9 (refine gn fd ?_)
  refine gl fd ?_;refine gl fd ?_;refine gl fd ?_ (h1:=fun w' hS=>by
   have q1:=zA (hS.heap (b:=w.heap.size) NB.out BX2.out);have q2:=zA (hS.heap HXA.out (FA2.out.heap HXA.out HKX.out));have q3:=zA (hS.heap HYA.out (FA2.out.heap HYA.out HKY.out));have szw:=bl (q1 0);have szx:=bl (q2 0);have szy:=bl (q3 0);clear hS;go_simp;rfl)
  iterate 3 (refine gl fd ?_)
  refine gl fd ?_ (h1:=fun w' hS=>by
   have q1:=zA (hS.heap (b:=w.heap.size) NB.out BX2.out);have q2:=zA (hS.heap HXA.out (FA2.out.heap HXA.out HKX.out));have q3:=zA (hS.heap HYA.out (FA2.out.heap HYA.out HKY.out));have szw:=bl (q1 0);have szx:=bl (q2 0);have szy:=bl (q3 0);clear hS;go_simp;rfl)
  iterate 3 (refine gl fd ?_)
  refine gl fd ?_ (h1:=fun w' hS=>by
   have q1:=zA (hS.heap (b:=w.heap.size) NB.out BX2.out);have q2:=zA (hS.heap HXA.out (FA2.out.heap HXA.out HKX.out));have q3:=zA (hS.heap HYA.out (FA2.out.heap HYA.out HKY.out));have szw:=bl (q1 0);have szx:=bl (q2 0);have szy:=bl (q3 0);clear hS;go_simp;rfl)
  refine gl fd ?_;refine gl fd ?_;refine gc 132 ?_;refine (HS.out t1 t2 v1 v2 (Uni.inner m) o w1.drew U bm hd s (depth + 1) r (by omega) HR.out HZ.out (HE2.out.keep ((Fr.refl E.A w1).drew)) (HN2.out.keep ((Fr.refl _ w1).drew)) ((PX.out.keep FA2.out).keep ((Fr.refl E.A w1).drew)) ((PY.out.keep FA2.out).keep ((Fr.refl E.A w1).drew))).mono ?_;rintro e w3 ⟨rfl,hf3,s3,hd3,hn3,hs3⟩;have FW3:=hid (((Fr.refl E.A w1).drew).trans hf3)
  have FA3:=hid (FA2.out.trans (((Fr.refl E.A w1).drew).trans hf3));have HN3:=hid hn3;have HS3:=hid hs3;have BX3:=hid (hf3.heap NB.out ((Fr.refl E.A w1).drew.heap NB.out BX2.out));clear hf3 hn3 hs3;refine ⟨_,rfl,fun _=>FW3.out,?_⟩;refine gv (fun _=>FW3.out) ?_;refine gv (fun h=>absurd h (by decide)) ?_;refine wV ?_;go_wp2;exact door h0 (by omega) (by simp [fs]) FA3.out BX3.out HN3.out HS3.out
 case pos=>
  have hand:=and2_ex HM.out hex;by_cases hfg:f.n=g.n
  case pos=>
   have hyx:xi=yi:=hxy.2 hfg;subst hyx;have HR:=hid (HRE.out (fun h=>h.2 hfg));clear hxy hfg
   iterate 7 (refine gl fd ?_)
   refine gl fd ?_ (h1:=fun w' hS=>by
    have q1:=zA (hS.heap (b:=w.heap.size) NB.out BX2.out);have q2:=zA (hS.heap HXA.out (FA2.out.heap HXA.out HKX.out));have q3:=zA (hS.heap HYA.out (FA2.out.heap HYA.out HKY.out));have szw:=bl (q1 0);have szx:=bl (q2 0);have szy:=bl (q3 0);clear hS;go_simp;rfl)
   iterate 3 (refine gl fd ?_)
   refine gl fd ?_ (h1:=fun w' hS=>by
    have q1:=zA (hS.heap (b:=w.heap.size) NB.out BX2.out);have q2:=zA (hS.heap HXA.out (FA2.out.heap HXA.out HKX.out));have q3:=zA (hS.heap HYA.out (FA2.out.heap HYA.out HKY.out));have szw:=bl (q1 0);have szx:=bl (q2 0);have szy:=bl (q3 0);clear hS;go_simp;rfl)
   iterate 3 (refine gl fd ?_)
   refine gl fd ?_ (h1:=fun w' hS=>by
    have q1:=zA (hS.heap (b:=w.heap.size) NB.out BX2.out);have q2:=zA (hS.heap HXA.out (FA2.out.heap HXA.out HKX.out));have q3:=zA (hS.heap HYA.out (FA2.out.heap HYA.out HKY.out));have szw:=bl (q1 0);have szx:=bl (q2 0);have szy:=bl (q3 0);clear hS;go_simp;rfl)
   iterate 3 (refine gl fd ?_)
   refine gl fd ?_ (h1:=fun w' hS=>by
    have q1:=zA (hS.heap (b:=w.heap.size) NB.out BX2.out);have q2:=zA (hS.heap HXA.out (FA2.out.heap HXA.out HKX.out));have q3:=zA (hS.heap HYA.out (FA2.out.heap HYA.out HKY.out));have szw:=bl (q1 0);have szx:=bl (q2 0);have szy:=bl (q3 0);clear hS;go_simp;rfl)
   iterate 3 (refine gl fd ?_)
   refine gl fd ?_ (h1:=fun w' hS=>by
    have q1:=zA (hS.heap (b:=w.heap.size) NB.out BX2.out);have q2:=zA (hS.heap HXA.out (FA2.out.heap HXA.out HKX.out));have q3:=zA (hS.heap HYA.out (FA2.out.heap HYA.out HKY.out));have szw:=bl (q1 0);have szx:=bl (q2 0);have szy:=bl (q3 0);clear hS;go_simp;rfl)
   refine gl fd ?_;refine gl fd ?_;refine gc 132 ?_;refine (HS.out t1 t2 v1 v2 (Uni.inner m) o w1.drew U bm hd s (depth + 1) r (by omega) HR.out HZ.out (HE2.out.keep ((Fr.refl E.A w1).drew)) (HN2.out.keep ((Fr.refl _ w1).drew)) ((PX.out.keep FA2.out).keep ((Fr.refl E.A w1).drew)) ((PY.out.keep FA2.out).keep ((Fr.refl E.A w1).drew))).mono ?_;rintro e w3 ⟨rfl,hf3,s3,hd3,hn3,hs3⟩;have FW3:=hid (((Fr.refl E.A w1).drew).trans hf3)
   have FA3:=hid (FA2.out.trans (((Fr.refl E.A w1).drew).trans hf3));have HN3:=hid hn3;have HS3:=hid hs3;have BX3:=hid (hf3.heap NB.out ((Fr.refl E.A w1).drew.heap NB.out BX2.out));clear hf3 hn3 hs3;refine ⟨_,rfl,fun _=>FW3.out,?_⟩;refine gv (fun _=>FW3.out) ?_;refine gv (fun h=>absurd h (by decide)) ?_;refine wV ?_;go_wp2;exact door h0 (by omega) (by simp [fs]) FA3.out BX3.out HN3.out HS3.out
  case neg=>
   have hyx: ¬xi=yi:=fun h=>hfg (hxy.1 h)
   have hb:(xi==yi)=false:=by simp [hyx]
   have hrn:=(Option.some.inj (HRN.out ⟨hex,hfg⟩)).symm;subst hrn;clear hxy hfg
   iterate 7 (refine gl fd ?_)
   refine gl fd ?_ (h1:=fun w' hS=>by
    have q1:=zA (hS.heap (b:=w.heap.size) NB.out BX2.out);have q2:=zA (hS.heap HXA.out (FA2.out.heap HXA.out HKX.out));have q3:=zA (hS.heap HYA.out (FA2.out.heap HYA.out HKY.out));have szw:=bl (q1 0);have szx:=bl (q2 0);have szy:=bl (q3 0);clear hS;go_simp;rfl)
   iterate 3 (refine gl fd ?_)
   refine gl fd ?_ (h1:=fun w' hS=>by
    have q1:=zA (hS.heap (b:=w.heap.size) NB.out BX2.out);have q2:=zA (hS.heap HXA.out (FA2.out.heap HXA.out HKX.out));have q3:=zA (hS.heap HYA.out (FA2.out.heap HYA.out HKY.out));have szw:=bl (q1 0);have szx:=bl (q2 0);have szy:=bl (q3 0);clear hS;go_simp;rfl)
   iterate 3 (refine gl fd ?_)
   iterate 11 (refine gn fd ?_)
   refine gu (fun _=>fd) ?_;refine gv (fun _=>fd) ?_;refine gv (fun h=>absurd h (by decide)) ?_;refine wV ?_;go_wp2;exact door h0 (by omega) (by simp [fs]) (FA2.out.trans ((Fr.refl _ _).drew)) (((Fr.refl E.A w1).drew).heap NB.out BX2.out) (HN2.out.keep ((Fr.refl _ w1).drew)) (fun s1 h=>by cases h)
end Go.Proofs.YtpekidjfbinekaaGreatDoor
