/- H7, H8, H9, H10 -/
import Derived.LaidEqlPtr
import Derived.Test.YtpekidjfbinekaaGreatDoorA18
set_option maxRecDepth 100000
set_option maxHeartbeats 60000000
set_option linter.all false
namespace Go.Proofs.YtpekidjfbinekaaGreatDoor
open Go.RowKit Uni
theorem neq_of_eql {w:World}{t1 t2:TypeId}{x y:Value}{b:Bool}(h:(binOp .eql 103 (.iface t1 x) (.iface t2 y)).run Tryz.prog w= .ok (.bool b) w):(binOp .neq 103 (.iface t1 x) (.iface t2 y)).run Tryz.prog w= .ok (.bool (!b)) w:=by
 simp only [binOp] at h ⊢;simp at h ⊢
 cases he:(Op.equal 103 (.iface t1 x) (.iface t2 y)).run Tryz.prog w with
 |ok v w'=>
  rw [he] at h;simp at h ⊢;obtain ⟨h1,h2⟩:=h;subst h1 h2;simp
 |halt s w'=>rw [he] at h;simp at h
theorem run_tup_same {w:World}{E:GEnv}{pv:Value}{vs:List Value}(h:yZ w E pv vs):(binOp .eql 103 (.iface 134 pv) (.iface 134 pv)).run Tryz.prog w= .ok (.bool true) w:=by
 obtain ⟨ms,hi⟩:=wU;obtain ⟨e,i,j,hp,hinfo,hc,hte,hsz⟩:=isEqTy_of (show isEqTy 134=true by kernel_rfl);rcases h with ⟨_,rfl⟩ | ⟨b,va,vc,h0,rfl,h2,h3,h4,h5,h6⟩
 ·have h: ∀d:Nat,(Op.equalIn (d + 2) 103 (.iface 134 (.pointer none)) (.iface 134 (.pointer none))).run Tryz.prog w= .ok true w:=fun d=>by
   simp [Op.equalIn,run_underlying hi,run_underlying hp,typeInfo,hinfo,hc]
  simp only [binOp];simp [Op.equal,Op.maxDepth,h 9998]
 ·exact run_eql_iface_ptr_same w _ hi hp hinfo hc hte
theorem run_tup_other {w:World}{E:GEnv}{pv qv:Value}{vs us:List Value}(hx:yZ w E pv vs)(hy:yZ w E qv us)(hne:pv≠qv):(binOp .eql 103 (.iface 134 pv) (.iface 134 qv)).run Tryz.prog w= .ok (.bool false) w:=by
 obtain ⟨ms,hi⟩:=wU;obtain ⟨e,i,j,hp,hinfo,hc,hte,hsz⟩:=isEqTy_of (show isEqTy 134=true by kernel_rfl);rcases hx with ⟨_,rfl⟩ | ⟨b,va,vc,h0,rfl,h2,h3,h4,h5,h6⟩
 ·rcases hy with ⟨_,rfl⟩ | ⟨b',va',vc',h0',rfl,h2',h3',_⟩
  ·exact absurd rfl hne
  ·have h: ∀d:Nat,(Op.equalIn (d + 2) 103 (.iface 134 (.pointer none)) (.iface 134 (.pointer (some ⟨b',0,none⟩)))).run Tryz.prog w= .ok false w:=fun d=>by
    simp [Op.equalIn,run_underlying hi,run_underlying hp,typeInfo,hinfo,hc]
   simp only [binOp];simp [Op.equal,Op.maxDepth,h 9998]
 ·rcases hy with ⟨_,rfl⟩ | ⟨b',va',vc',h0',rfl,h2',h3',_⟩
  ·have h: ∀d:Nat,(Op.equalIn (d + 2) 103 (.iface 134 (.pointer (some ⟨b,0,none⟩))) (.iface 134 (.pointer none))).run Tryz.prog w= .ok false w:=fun d=>by
    simp [Op.equalIn,run_underlying hi,run_underlying hp,typeInfo,hinfo,hc]
   simp only [binOp];simp [Op.equal,Op.maxDepth,h 9998]
  ·exact run_eql_iface_ptr_other w hi hp hinfo hc hte hsz (fun h=>hne (by rw [h])) h3 h3'
theorem nify_eqv {E:GEnv}(tx:TypeId)(px:Value)(z:Int)(w:World)(U bm:Nat)(hd:Nat->Addr)(s:St)(depth:Int)(h0:0<=depth)(h50:depth<=50)(hN:NRep w E U bm hd s depth)(hv: ∀w',Fr E.A w w'->(binOp .eql 103 (.iface tx px) (.iface tx px)).run Tryz.prog w'= .ok (.bool true) w'):
 Calls Tryz.prog 132 #[.pointer (some ⟨U,0,none⟩),.iface tx px,.iface tx px,.int .u64 z,.pointer none] w (xM w E U bm depth (some s)):=by
 have hmf: ∀(fn:Fn) (first cap:Array Value) (w:World),(Instr.makeFunc fn first cap).run Tryz.prog w= .ok (.func fn first cap) w:=fun _ _ _ _=>rfl
 have hN1:=hN.enter (.cells #[.pointer (some ⟨U,0,none⟩)] 173);have FA1:Fr E.A w ((w.setCell ⟨U,2,none⟩ (.int .i64 (depth + 1))).alloc (.cells #[.pointer (some ⟨U,0,none⟩)] 173)):=((Fr.refl E.A w).setCell (p:=⟨U,2,none⟩) (.inl hN.AU) _).alloc _;have SC:(w.setCell ⟨U,2,none⟩ (.int .i64 (depth + 1))).heap.size=w.heap.size:=by simp [World.setCell]
 have BX1:((w.setCell ⟨U,2,none⟩ (.int .i64 (depth + 1))).alloc (.cells #[.pointer (some ⟨U,0,none⟩)] 173)).heap[w.heap.size]?=some (.cells #[.pointer (some ⟨U,0,none⟩)] 173 (0,0)):=by have h:=heap_alloc_new (w.setCell ⟨U,2,none⟩ (.int .i64 (depth + 1))) (.cells #[.pointer (some ⟨U,0,none⟩)] 173);rw [SC] at h;exact h
 have qu:=zA hN.u;have fu:=zC hN.u;have szu:=bl (qu 0);dsimp only at szu;have heq:=hv _ FA1;have HN1:=hid hN1;have FA:=hid FA1;have BX:=hid BX1;clear hN1 FA1 BX1 hN SC hv;go_enter_defers Tryz.func132,Tryz.ntmps132;go_wp2;exact door h0 (by omega) rfl FA.out BX.out HN1.out (fun s1 h=>Option.some.inj h)
theorem tupN_lens {st:Option (St->Tm->Tm->Option (Option St))}{s:St}{n o:Nat}{ts bs:List Tm}{r:Option St}(hno:n≠o->ts.length≠bs.length)(f:St->Tm->Tm->Option (Option St))(hst:st=some f)(h:tupN st s n o ts bs=some r):
 (if ts.length≠bs.length then some none else seqN f s ts bs)=some r:=by
 subst hst;unfold tupN at h;dsimp only at h;by_cases hl:ts.length≠bs.length
 ·rw [if_pos hl]
  split at h
  ·exact h
  ·first | exact h | (rw [if_pos hl] at h;exact h)
 ·rw [if_neg hl]
  rw [if_neg (fun h'=>hl (hno h')),if_neg hl] at h;exact h
theorem nify_tup {E:GEnv}{k:Nat}(hS: ∀k',k=k' + 1->xU E k')(ts bs:List Tm)(pv qv:Value)(vs us:List Value)(m:Uni.Mode)(z:Int)(w:World)(U bm:Nat)(hd:Nat->Addr)(s:St)(depth:Int)(r:Option St)(n o:Nat)(hdk:depth + k=50)(h0:0<=depth)
 (hr:tupN ((xN E.D k).map fun st s a b=>st s a b m) s n o ts bs=some r) (hno:n≠o->ts.length≠bs.length) (hm:yR m z) (hE:EnvOk w E) (hN:NRep w E U bm hd s depth) (hx:yZ w E pv vs) (hy:yZ w E qv us) (hvl:vs.length=ts.length) (hul:us.length=bs.length)
 (px: ∀(i:Nat) (v:Value) (t:Tm),vs[i]?=some v->ts[i]?=some t->PT w E v t) (py: ∀(i:Nat) (v:Value) (t:Tm),us[i]?=some v->bs[i]?=some t->PT w E v t):
 Calls Tryz.prog 132 #[.pointer (some ⟨U,0,none⟩),.iface 134 pv,.iface 134 qv,.int .u64 z,.pointer none] w (xM w E U bm depth r):=by
 by_cases hpq:pv=qv
 ·subst hpq
  have e1:=hx.det hy;subst e1
  have e2:ts=bs:=by
   refine List.ext_getElem (by omega) fun i h1 h2=> ?_
   have h3:i < vs.length:=by omega
   exact PT.det hE (px i vs[i] ts[i] (by simp [h3]) (by simp [h1])) _ (py i vs[i] bs[i] (by simp [h3]) (by simp [h2]))
  subst e2;have hn:n=o:=Classical.not_not.1 fun h=>hno h rfl
  subst hn
  have e3:=tupN_refl s n ts (fun st hst s a _ q hq=>by
   cases k with
   |zero=>cases hst
   |succ k'=>cases hst;exact nifyT_refl E.D k' s a m q hq) r hr
  subst e3;exact nify_eqv _ _ z w U bm hd s depth h0 (by omega) hN (fun w' F=>run_tup_same (hx.keep F))
 ·cases k with
  |zero=>
   exfalso;have hr':tupN none s n o ts bs=some r:=hr;unfold tupN at hr';dsimp only at hr'
   split at hr'
   ·rename_i h1
    have e1:vs= []:=List.eq_nil_of_length_eq_zero (by omega);have e2:us= []:=List.eq_nil_of_length_eq_zero (by omega);rcases hx with ⟨_,h1⟩ | ⟨_,_,_,h1,_⟩
    ·rcases hy with ⟨_,h2⟩ | ⟨_,_,_,h2,_⟩
     ·exact hpq (h1.trans h2.symm)
     ·exact h2 e2
    ·exact h1 e1
   ·cases hr'
  |succ k'=>
   have hr2:=tupN_lens hno (fun s a b=>zJ E.D k' s a b m) rfl hr;rw [<-hvl,<-hul] at hr2;have hsw:=fun (a:Act) (w1:World) (o:Int) (h:Sw E w U bm hd s depth m o (.iface 134 pv) (.iface 134 qv) a w1)=>sw_tup (hS k' rfl) ts bs pv qv vs us m w U bm hd s depth r o a w1 hdk h0 hr2 hx hy hvl hul px py h
   by_cases hex:m= .exact
   ·exact pre_all.2.2.2.2.1 134 134 pv qv m z w U bm hd s depth _ (by omega) h0 hm hE hN hex (by decide) (by decide) (by decide) (by decide) (by decide) (by decide) (fun w' F=>run_tup_other (hx.keep F) (hy.keep F) hpq) (fun w' F=>neq_of_eql (run_tup_other (hx.keep F) (hy.keep F) hpq)) hsw
   ·exact pre_all.2.2.2.2.2.1 134 134 pv qv m z w U bm hd s depth _ (by omega) h0 hm hE hN hex (by decide) (by decide) (by decide) (by decide) (by decide) (by decide) (fun w' F=>run_tup_other (hx.keep F) (hy.keep F) hpq) (fun w' F=>neq_of_eql (run_tup_other (hx.keep F) (hy.keep F) hpq)) hsw
theorem node_10 {step:St->Tm->Tm->Uni.Mode->Option (Option St)}{zQ:Option (St->Tm->Tm->Uni.Mode->Option (Option St))}{s:St}{f g:Lab}{m:Uni.Mode}(hf:f.kind=10)(hg:g.kind=10)(ts us:List Tm):
 zK step zQ s f ts g us m=if f.vari≠g.vari then some none else
  match tupN (zQ.map fun st s a b=>st s a b (Uni.inner m)) s f.cnt g.cnt (ts.take f.cnt) (us.take g.cnt) with
  |some (some s')=>tupN (zQ.map fun st s a b=>st s a b (Uni.inner m)) s' 0 0 (ts.drop f.cnt) (us.drop g.cnt)
  |r=>r:=by
 unfold zK;rw [if_neg (by omega),if_neg (by omega),if_neg (by omega),if_neg (by omega),if_neg (by omega),if_neg (by omega),if_pos hf];rfl
theorem take_some {α:Type}{l:List α}{n i:Nat}{v:α}(h:(l.take n)[i]?=some v):l[i]?=some v:=by
 rw [List.getElem?_take] at h
 split at h
 ·exact h
 ·cases h
theorem sw_10 {E:GEnv}{k:Nat}(hS2: ∀k',k=k' + 1->xU E k')(f:Lab)(ts:List Tm)(g:Lab)(bs:List Tm)(vx vy:Value)(m:Uni.Mode)(w:World)(U bm:Nat)(hd:Nat->Addr)(s:St)(depth:Int)(r:Option St)(o:Int)(a:Act)(w1:World)(hdk:depth + (k + 1:Nat)=50)(h0:0<=depth)
 (hr:zK (zJ E.D k) (xN E.D k) s f ts g bs m=some r) (hx:PT w E vx (.node f ts)) (hy:PT w E vy (.node g bs)) (hfk:f.kind=10) (hgk:g.kind=10) (h:Sw E w U bm hd s depth m o vx vy a w1):
 Code.wp Tryz.prog yN (bodyPostD Tryz.prog Tryz.f132 (xM w E U bm depth r)) a w1:=by
 obtain ⟨t,ds⟩:=a;obtain ⟨hsz,h1,h2,⟨z,h3,hm⟩,h4,h5,h42,hds,hz,znb,zfa,zbx,zhn,zhe⟩:=h;dsimp only at hsz h1 h2 h3 h4 h5 h42 hds;subst hds;obtain ⟨xa,pp,rp,vs,rfl,cx,hxA,kx,lvx,tpx,trx,px⟩:=hx.inv10 hfk;obtain ⟨ya,qp,sp,us,rfl,cy,hyA,ky,lvy,tpy,try_,py⟩:=hy.inv10 hgk;rw [node_10 hfk hgk] at hr;obtain ⟨xv,hxv⟩: ∃b,b=f.vari:=⟨_,rfl⟩;obtain ⟨yv,hyv⟩: ∃b,b=g.vari:=⟨_,rfl⟩;rw [<-hxv] at kx;rw [<-hyv] at ky
 rw [<-hxv,<-hyv] at hr;have HR:=hid hr;have TPX:=hid tpx;have TRX:=hid trx;have TPY:=hid tpy;have TRY:=hid try_;have PX:=hid px;have PY:=hid py;have CX:=hid cx;have CY:=hid cy;have LX:=hid lvx;have LY:=hid lvy;clear hr tpx trx tpy try_ px py cx cy lvx lvy hx hy hxv hyv;have HKX:=hid kx;have HKY:=hid ky;have HXA:=hid hxA;have HYA:=hid hyA;clear kx ky hxA hyA hfk hgk;have HM:=hid hm;have HZ:=hid hz;have NB:=hid znb;have FA2:=hid zfa;have BX2:=hid zbx;have HN2:=hid zhn;have HE2:=hid zhe
 clear hz znb zfa zbx zhn zhe hm;have A179:=zD p179;have A146:=zD p146;have A144:=zD p144;have A156:=zD p156;have A142:=zD p142;have A134:=zD p134;have A128:=zD p128;obtain ⟨u,rfl,hu⟩:=relit t hsz;have e1:=hu 1 _ h1;have e2:=hu 2 _ h2;have e3:=hu 3 _ h3;have e4:=hu 4 _ h4;have e5:=hu 5 _ h5;have e42:=hu 42 _ h42;clear h1 h2 h3 h4 h5 h42 hu hsz;simp only [fr,e1,e2,e3,e4,e5,e42];clear e1 e2 e3 e4 e5 e42
 refine wp_eq (show yN=Code.seq _ _ from rfl) ?_;go_wp2_with fail
 refine wp_abs fun A hA=> ?_
 have fs:A.tmps.size=1016:=by rw [hA];rfl
 have fd:A.defers= [{target:= .fn (.func 161) #[.pointer (some ⟨w.heap.size,0,none⟩)],args:= #[]}]:=by rw [hA]
 obtain ⟨b5,f5⟩:=zN (show A.tmps[5]?=some (.pointer (some ⟨w.heap.size,0,none⟩)) by rw [hA];rfl);obtain ⟨b4,f4⟩:=zN (show A.tmps[4]?=some (.pointer none) by rw [hA];rfl);obtain ⟨b42,f42⟩:=zN (show A.tmps[42]?=some (.int .u64 o) by rw [hA];rfl);obtain ⟨b68,f68⟩:=zN (show A.tmps[68]?=some (.pointer (some ⟨xa,0,none⟩)) by rw [hA];rfl);obtain ⟨b69,f69⟩:=zN (show A.tmps[69]?=some (.pointer (some ⟨ya,0,none⟩)) by rw [hA];rfl)
 clear hA A179 A146 A144 A156 A142 A134 A128;obtain ⟨tA,dA⟩:=A;dsimp only at fs fd;subst fd;have G1: ∀(t:Array Value) (i:Nat) (v:Value),i < t.size->(t.setIfInBounds i v)[i]?=some v:=fun t i v h=>wX h
 have G2: ∀(t:Array Value) (i j:Nat) (v:Value),i≠j->(t.setIfInBounds i v)[j]?=t[j]?:=fun t i j v h=>wG h
 refine wp_pg (Fr E.A w1) [(0,true),(1,true),(2,true),(3,true),(4,true),(5,true),(6,true),(7,true),(8,true),(9,true),(10,true),(11,true),(12,true),(13,true),(14,true),(15,true),(16,true),(17,true),(18,true),(19,true),(20,true),(21,true),(22,true),(23,false),(24,false),(25,false),(26,true),(27,true),(28,true),(29,true),(30,true),(31,true),(32,true),(33,true),(34,true),(35,true),(36,true),(37,true),(38,false),(39,false),(40,false),(41,false)] [41] yE (by kernel_rfl) (by kernel_rfl) (by kernel_rfl) (by decide) ?_
 by_cases hv:xv≠yv
 case pos=>
  have hb:(xv==yv)=false:=by simpa using hv
  have hrn:r=none:=by
   have:=HR.out;rw [if_pos hv] at this;exact (Option.some.inj this).symm
  subst hrn
  iterate 3 (refine gl fd ?_)
  refine gl fd ?_ (h1:=fun w' hS=>by
   have q1:=zA (hS.heap (b:=w.heap.size) NB.out BX2.out);have q2:=zA (hS.heap HXA.out (FA2.out.heap HXA.out HKX.out));have q3:=zA (hS.heap HYA.out (FA2.out.heap HYA.out HKY.out));have szw:=bl (q1 0);have szx:=bl (q2 0);have szy:=bl (q3 0);clear hS;go_simp;rfl)
  iterate 3 (refine gl fd ?_)
  refine gl fd ?_ (h1:=fun w' hS=>by
   have q1:=zA (hS.heap (b:=w.heap.size) NB.out BX2.out);have q2:=zA (hS.heap HXA.out (FA2.out.heap HXA.out HKX.out));have q3:=zA (hS.heap HYA.out (FA2.out.heap HYA.out HKY.out));have szw:=bl (q1 0);have szx:=bl (q2 0);have szy:=bl (q3 0);clear hS;go_simp;rfl)
  refine gl fd ?_;refine gl fd ?_
  iterate 13 (refine gn fd ?_)
  refine gu (fun _=>fd) ?_;refine gv (fun _=>fd) ?_;refine gv (fun _=>fd) ?_
  iterate 12 (refine gn fd ?_)
  refine gu (fun _=>fd) ?_;refine gu (fun _=>fd) ?_;refine gv (fun _=>fd) ?_;refine gv (fun h=>absurd h (by decide)) ?_;refine wV ?_;go_wp2;exact door h0 (by omega) (by simp [fs]) (FA2.out.trans ((Fr.refl _ _).drew)) (((Fr.refl E.A w1).drew).heap NB.out BX2.out) (HN2.out.keep ((Fr.refl _ w1).drew)) (fun s1 h=>by cases h)
 case neg=>
  have hvv:xv=yv:=Classical.not_not.1 hv;subst hvv;have hr:=HR.out;rw [if_neg hv] at hr
  obtain ⟨q1,hq1⟩: ∃q,tupN ((xN E.D k).map fun st s a b=>st s a b (Uni.inner m)) s f.cnt g.cnt (ts.take f.cnt) (bs.take g.cnt)=some q:=by
   cases h:tupN ((xN E.D k).map fun st s a b=>st s a b (Uni.inner m)) s f.cnt g.cnt (ts.take f.cnt) (bs.take g.cnt) with
   |none=>rw [h] at hr;cases hr
   |some q=>exact ⟨q,rfl⟩
  rw [hq1] at hr;have HQ1:=hid hq1;have HR1:=hid hr;clear hq1 hr
  iterate 3 (refine gl fd ?_)
  refine gl fd ?_ (h1:=fun w' hS=>by
   have q1:=zA (hS.heap (b:=w.heap.size) NB.out BX2.out);have q2:=zA (hS.heap HXA.out (FA2.out.heap HXA.out HKX.out));have q3:=zA (hS.heap HYA.out (FA2.out.heap HYA.out HKY.out));have szw:=bl (q1 0);have szx:=bl (q2 0);have szy:=bl (q3 0);clear hS;go_simp;rfl)
  iterate 3 (refine gl fd ?_)
  refine gl fd ?_ (h1:=fun w' hS=>by
   have q1:=zA (hS.heap (b:=w.heap.size) NB.out BX2.out);have q2:=zA (hS.heap HXA.out (FA2.out.heap HXA.out HKX.out));have q3:=zA (hS.heap HYA.out (FA2.out.heap HYA.out HKY.out));have szw:=bl (q1 0);have szx:=bl (q2 0);have szy:=bl (q3 0);clear hS;go_simp;rfl)
  refine gl fd ?_;refine gl fd ?_
  refine gl fd ?_ (h1:=fun w' hS=>by
   have q1:=zA (hS.heap (b:=w.heap.size) NB.out BX2.out);have q2:=zA (hS.heap HXA.out (FA2.out.heap HXA.out HKX.out));have q3:=zA (hS.heap HYA.out (FA2.out.heap HYA.out HKY.out));have szw:=bl (q1 0);have szx:=bl (q2 0);have szy:=bl (q3 0);clear hS;go_simp;rfl)
  iterate 3 (refine gl fd ?_)
  refine gl fd ?_ (h1:=fun w' hS=>by
   have q1:=zA (hS.heap (b:=w.heap.size) NB.out BX2.out);have q2:=zA (hS.heap HXA.out (FA2.out.heap HXA.out HKX.out));have q3:=zA (hS.heap HYA.out (FA2.out.heap HYA.out HKY.out));have szw:=bl (q1 0);have szx:=bl (q2 0);have szy:=bl (q3 0);clear hS;go_simp;rfl)
  iterate 4 (refine gl fd ?_)
  refine gl fd ?_ (h1:=fun w' hS=>by
   have q1:=zA (hS.heap (b:=w.heap.size) NB.out BX2.out);have q2:=zA (hS.heap HXA.out (FA2.out.heap HXA.out HKX.out));have q3:=zA (hS.heap HYA.out (FA2.out.heap HYA.out HKY.out));have szw:=bl (q1 0);have szx:=bl (q2 0);have szy:=bl (q3 0);clear hS;go_simp;rfl)
  iterate 3 (refine gl fd ?_)
  refine gc 132 ?_
  refine (nify_tup hS2 (ts.take f.cnt) (bs.take g.cnt) pp qp (vs.take f.cnt) (us.take g.cnt) (Uni.inner m) o _ U bm hd s (depth + 1) q1 f.cnt g.cnt (by omega) (by omega) HQ1.out (fun h=>by rw [List.length_take_of_le CX.out,List.length_take_of_le CY.out];exact h) HZ.out (HE2.out.keep ((Fr.refl E.A w1).drew)) (HN2.out.keep ((Fr.refl _ w1).drew)) ((TPX.out.keep FA2.out).keep ((Fr.refl E.A w1).drew)) ((TPY.out.keep FA2.out).keep ((Fr.refl E.A w1).drew)) (by rw [List.length_take,List.length_take,LX.out]) (by rw [List.length_take,List.length_take,LY.out])
   (fun i v t h1 h2=>((PX.out i v t (take_some h1) (take_some h2)).keep FA2.out).keep ((Fr.refl E.A w1).drew)) (fun i v t h1 h2=>((PY.out i v t (take_some h1) (take_some h2)).keep FA2.out).keep ((Fr.refl E.A w1).drew))).mono ?_
  rintro e w3 ⟨rfl,hf3,s3,hd3,hn3,hs3⟩;have FW3:=hid (((Fr.refl E.A w1).drew).trans hf3);have FA3:=hid (FA2.out.trans (((Fr.refl E.A w1).drew).trans hf3));have HN3:=hid hn3;have HS3:=hid hs3;have BX3:=hid (hf3.heap NB.out ((Fr.refl E.A w1).drew.heap NB.out BX2.out));clear hf3 hn3 hs3;refine ⟨_,rfl,fun _=>FW3.out,?_⟩
  cases q1 with
  |none=>
   have hrn:r=none:=(Option.some.inj HR1.out).symm;subst hrn;refine gv (fun _=>FW3.out) ?_;refine gv (fun _=>FW3.out) ?_
   iterate 12 (refine gn FW3.out ?_)
   refine gu (fun _=>FW3.out) ?_;refine gu (fun _=>FW3.out) ?_;refine gv (fun _=>FW3.out) ?_;refine gv (fun h=>absurd h (by decide)) ?_;refine wV ?_;go_wp2;exact door h0 (by omega) (by simp [fs]) FA3.out BX3.out HN3.out (fun s1 h=>by cases h)
  |some s3'=>
   have hs4:=HS3.out s3' rfl;subst hs4;have HR2:=hid (show tupN ((xN E.D k).map fun st s a b=>st s a b (Uni.inner m)) s3 0 0 (ts.drop f.cnt) (bs.drop g.cnt)=some r from HR1.out);refine gv (fun _=>FW3.out) ?_;refine gv (fun _=>FW3.out) ?_
   refine gl FW3.out ?_ (h1:=fun w' hS=>by
    have q1:=zA (hS.heap (b:=w.heap.size) NB.out BX2.out);have q2:=zA (hS.heap HXA.out (FA2.out.heap HXA.out HKX.out));have q3:=zA (hS.heap HYA.out (FA2.out.heap HYA.out HKY.out));have szw:=bl (q1 0);have szx:=bl (q2 0);have szy:=bl (q3 0);clear hS;go_simp;rfl)
   iterate 3 (refine gl FW3.out ?_)
   refine gl FW3.out ?_ (h1:=fun w' hS=>by
    have q1:=zA (hS.heap (b:=w.heap.size) NB.out BX2.out);have q2:=zA (hS.heap HXA.out (FA2.out.heap HXA.out HKX.out));have q3:=zA (hS.heap HYA.out (FA2.out.heap HYA.out HKY.out));have szw:=bl (q1 0);have szx:=bl (q2 0);have szy:=bl (q3 0);clear hS;go_simp;rfl)
   iterate 4 (refine gl FW3.out ?_)
   refine gl FW3.out ?_ (h1:=fun w' hS=>by
    have q1:=zA (hS.heap (b:=w.heap.size) NB.out BX2.out);have q2:=zA (hS.heap HXA.out (FA2.out.heap HXA.out HKX.out));have q3:=zA (hS.heap HYA.out (FA2.out.heap HYA.out HKY.out));have szw:=bl (q1 0);have szx:=bl (q2 0);have szy:=bl (q3 0);clear hS;go_simp;rfl)
   refine gl FW3.out ?_;refine gl FW3.out ?_;refine gv (fun _=>FW3.out) ?_;refine gc 132 ?_
   refine (nify_tup hS2 (ts.drop f.cnt) (bs.drop g.cnt) rp sp (vs.drop f.cnt) (us.drop g.cnt) (Uni.inner m) o _ U bm hd3 s3 (depth + 1) r 0 0 (by omega) (by omega) HR2.out (fun h=>absurd rfl h) HZ.out (HE2.out.keep FW3.out) HN3.out (TRX.out.keep FA3.out) (TRY.out.keep FA3.out) (by rw [List.length_drop,List.length_drop,LX.out]) (by rw [List.length_drop,List.length_drop,LY.out])
    (fun i v t h1 h2=>by rw [List.getElem?_drop] at h1 h2;exact (PX.out _ v t h1 h2).keep FA3.out) (fun i v t h1 h2=>by rw [List.getElem?_drop] at h1 h2;exact (PY.out _ v t h1 h2).keep FA3.out)).mono ?_
   rintro e w4 ⟨rfl,hf4,s4,hd4,hn4,hs4⟩;have FW4:=hid (FW3.out.trans hf4);have FA4:=hid (FA3.out.trans hf4);have HN4:=hid hn4;have HS4:=hid hs4;have BX4:=hid (hf4.heap NB.out BX3.out);clear hf4 hn4 hs4;refine ⟨_,rfl,fun _=>FW4.out,?_⟩;refine gv (fun _=>FW4.out) ?_;refine gv (fun h=>absurd h (by decide)) ?_;refine wV ?_;go_wp2;exact door h0 (by omega) (by simp [fs]) FA4.out BX4.out HN4.out HS4.out
structure NamedAt (w:World) (E:GEnv) (a:Nat) (n:Nat) (l:Value) (ta:Option Addr) (tc:Nat) (vs:List Value):Prop where
 args: ∀w',Fr E.A w w'->Calls Tryz.prog 135 #[.pointer (some ⟨a,0,none⟩)] w' fun e w''=>e= .returned l/\w''=w'
 list: ∀w',Fr E.A w w'->Calls Tryz.prog 175 #[l] w' fun e w''=>e= .returned (.slice ta vs.length tc)/\w''=w'
 origin: ∀w',Fr E.A w w'->Calls Tryz.prog 134 #[.pointer (some ⟨a,0,none⟩)] w' fun e w''=>e= .returned (.pointer (some ⟨E.nm n,0,none⟩))/\w''=w'
 lt:n < E.nd
 cap:vs.length<=tc
 cap2:tc<=maxLen
 types:yT w E ta vs
theorem PT.inv1 {w:World}{E:GEnv}{v:Value}{f:Lab}{ts:List Tm}(h:PT w E v (.node f ts))(hk:f.kind=1): ∃a l ta tc,∃vs:List Value,v= .iface 106 (.pointer (some ⟨a,0,none⟩))/\ ¬E.A a/\(∃c t,w.heap[a]?=some (.cells c t (0,0)))/\NamedAt w E a f.n l ta tc vs/\vs.length=ts.length/\(∀(i:Nat)(v:Value)(t:Tm),vs[i]?=some v->ts[i]?=some t->PT w E v t):=by
 cases h with
 |named0 f c0 c1 c2 c4 c5 u c9 c10 st h1 h2 h3 h4 h5 h6 h7=>
  refine ⟨E.nm f.n,.pointer none,none,0,[],rfl,h4,⟨_,_,h5⟩,⟨fun w' F=>typeArgs_none _ _ _ _ _ _ _ _ _ _ _ w' (F.heap h4 h5),fun w' F=>list_none w',fun w' F=>origin_none _ _ _ _ _ _ _ _ _ _ _ w' (F.heap h4 h5),h3,Nat.le_refl _,Nat.zero_le _,.inl rfl⟩,rfl,fun i v t h=>by cases h⟩
 |named f a ib lb ta tc c0 c1 c2 c4 c5 u c9 c10 st vs ts h1 h2 h3 hne h4 h5 h6 h7 h8 h9 h10 h11 h12 h13 h14 h15 h16=>
  exact ⟨a,.pointer (some ⟨lb,0,none⟩),ta,tc,vs,rfl,h4,⟨_,_,h5⟩,⟨fun w' F=>typeArgs_some _ _ _ _ _ _ _ _ _ _ _ _ _ _ w' (F.heap h4 h5) (F.heap h7 h8),fun w' F=>list_some _ _ w' (F.heap h9 h10),fun w' F=>origin_some _ _ _ _ _ _ _ _ _ _ _ _ _ _ w' (F.heap h4 h5) (F.heap h7 h8),h3,h12,h13,h14⟩,h11,h15⟩
 |basic f a i nm h1=>omega
 |ptr f a v t h1=>omega
 |slice f a v t h1=>omega
 |array f a v t h1=>omega
 |map f a v v' t t' h1=>omega
 |chan f a v t h1=>omega
 |struct f a fa fc vs ts h1=>omega
 |func f a pp rp vs ts h1=>omega
theorem identicalOrigin_any {w:World}{E:GEnv}{a b n1 n2:Nat}{l1 l2:Value}{ta tb:Option Addr}{tc1 tc2:Nat}{vs us:List Value}(hE:EnvOk w E)(hx:NamedAt w E a n1 l1 ta tc1 vs)(hy:NamedAt w E b n2 l2 tb tc2 us):
 Calls Tryz.prog 176 #[.pointer (some ⟨a,0,none⟩),.pointer (some ⟨b,0,none⟩)] w fun e w'=>e= .returned (.bool (decide (n1=n2)))/\Fr (fun _=>False) w w':=by
 obtain ⟨e,i,j,hp,hinfo,hc,hte,hsz⟩:=isEqTy_of (show isEqTy 97=true by kernel_rfl);obtain ⟨xA,x0,x2,x4,x5,x6,x7,xu,x9,x10,hx1,hoA,xc,xt,hox⟩:=hE.decl n1 hx.lt;obtain ⟨yA,y0,y2,y4,y5,y6,y7,yu,y9,y10,hy1,hpA,yc,yt,hoy⟩:=hE.decl n2 hy.lt
 have heq: ∀n,(binOp .eql 97 (.pointer (some ⟨E.ob n1,0,none⟩)) (.pointer (some ⟨E.ob n2,0,none⟩))).run Tryz.prog (w.drewN n)= .ok (.bool (decide (n1=n2))) (w.drewN n):=fun n=>by
  by_cases h:n1=n2
  ·subst h
   rw [run_eql_ptr_same _ _ hp hte];simp
  ·have F:=(Fr.refl (fun _=>False) w).drawn n
   rw [run_eql_ptr_other _ hp hte hsz (fun h'=>h (hE.inj n1 n2 hx.lt hy.lt (congrArg Addr.block h'))) (F.heap id hox) (F.heap id hoy)];simp [h]
 have q1:=zA hx1;have q2:=zA hy1;have sz1:=bl (q1 0);have sz2:=bl (q2 0);dsimp only at sz1 sz2;have O1:=hid (fun (n:Nat)=>hx.origin _ ((Fr.refl E.A w).drawn n));have O2:=hid (fun (n:Nat)=>hy.origin _ ((Fr.refl E.A w).drawn n));clear hE hx hy hx1 hy1 hox hoy xA yA hoA hpA hp hinfo hc hte hsz;go_enter Tryz.func176,Tryz.ntmps176;go_wp2_with fail
 go_quiet (first | (go_at_call 134;with_reducible exact Calls.quiet_of_same (O1.out _)) | (go_at_call 134;with_reducible exact Calls.quiet_of_same (O2.out _)));go_wp2;go_ret;exact ⟨rfl,(Fr.refl _ _).drawn nq⟩
theorem node_1 {step:St->Tm->Tm->Uni.Mode->Option (Option St)}{zQ:Option (St->Tm->Tm->Uni.Mode->Option (Option St))}{s:St}{f g:Lab}{m:Uni.Mode}(hf:f.kind=1)(hg:g.kind=1)(ts us:List Tm):
 zK step zQ s f ts g us m=if ts.length≠us.length then some none else
  match seqN (fun s a b=>step s a b m) s ts us with
  |some (some s')=>some (if f.n=g.n then some s' else none)
  |r=>r:=by
 unfold zK;rw [if_neg (by omega),if_neg (by omega),if_pos hf];rfl
theorem sw_1 {E:GEnv}{k:Nat}(hS:xU E k)(f:Lab)(ts:List Tm)(g:Lab)(bs:List Tm)(vx vy:Value)(m:Uni.Mode)(w:World)(U bm:Nat)(hd:Nat->Addr)(s:St)(depth:Int)(r:Option St)(o:Int)(a:Act)(w1:World)(hdk:depth + (k + 1:Nat)=50)(h0:0<=depth)
 (hr:zK (zJ E.D k) (xN E.D k) s f ts g bs m=some r) (hx:PT w E vx (.node f ts)) (hy:PT w E vy (.node g bs)) (hfk:f.kind=1) (hgk:g.kind=1) (h:Sw E w U bm hd s depth m o vx vy a w1):
 Code.wp Tryz.prog yN (bodyPostD Tryz.prog Tryz.f132 (xM w E U bm depth r)) a w1:=by
 obtain ⟨t,ds⟩:=a;obtain ⟨hsz,h1,h2,⟨z,h3,hm⟩,h4,h5,h42,hds,hz,znb,zfa,zbx,zhn,zhe⟩:=h;dsimp only at hsz h1 h2 h3 h4 h5 h42 hds;subst hds;obtain ⟨xa,lx,ta,tc,vs,rfl,hxA,_,nx,lvx,px⟩:=hx.inv1 hfk;obtain ⟨ya,ly,tb,tc2,us,rfl,hyA,_,ny,lvy,py⟩:=hy.inv1 hgk;rw [node_1 hfk hgk] at hr;have hnq: ∀(a:Addr) (w:World),(binOp .neq 106 (.pointer (some a)) (.pointer none)).run Tryz.prog w= .ok (.bool true) w:=fun a w=>rfl
 have HR:=hid hr;have NX:=hid nx;have NY:=hid ny;have PX:=hid px;have PY:=hid py;have LX:=hid lvx;have LY:=hid lvy
 have hbx:vs.length≤9223372036854775807:=by have h1:maxLen≤9223372036854775807:=by decide
                                            have h2:=nx.cap;have h3:=nx.cap2;omega
 clear hr nx ny px py lvx lvy hx hy hxA hyA hfk hgk;have HS:=hid hS;have HM:=hid hm;have HZ:=hid hz;have NB:=hid znb;have FA2:=hid zfa;have BX2:=hid zbx;have HN2:=hid zhn;have HE2:=hid zhe;clear hS hz znb zfa zbx zhn zhe hm;have A179:=zD p179;have A146:=zD p146;have A144:=zD p144;have A156:=zD p156;have A142:=zD p142;have A134:=zD p134;have A128:=zD p128;have A99:=zD p99;have A148:=zD p148;have A150:=zD p150
 have A106:=zD p106;obtain ⟨u,rfl,hu⟩:=relit t hsz;have e1:=hu 1 _ h1;have e2:=hu 2 _ h2;have e3:=hu 3 _ h3;have e4:=hu 4 _ h4;have e5:=hu 5 _ h5;have e42:=hu 42 _ h42;clear h1 h2 h3 h4 h5 h42 hu hsz;simp only [fr,e1,e2,e3,e4,e5,e42];clear e1 e2 e3 e4 e5 e42;refine wp_eq (show yN=Code.seq _ _ from rfl) ?_;obtain ⟨xl,hxl⟩: ∃n,n=vs.length:=⟨_,rfl⟩;obtain ⟨yl,hyl⟩: ∃n,n=us.length:=⟨_,rfl⟩;have LVX:=hid hxl;have LVY:=hid hyl
 rw [<-hxl] at hbx;clear hxl hyl;go_wp2_with fail
 refine (yI _ _ _ (by first | decide | assumption)).mono ?_;rintro e ww ⟨rfl,rfl⟩;go_wp2_with fail
 refine (NX.out.args _ FA2.out).mono ?_;rintro e ww ⟨rfl,rfl⟩;go_wp2_with fail
 refine (NX.out.list _ FA2.out).mono ?_;rintro e ww ⟨rfl,rfl⟩;go_wp2_with fail
 refine (NY.out.args _ FA2.out).mono ?_;rintro e ww ⟨rfl,rfl⟩;go_wp2_with fail
 refine (NY.out.list _ FA2.out).mono ?_;rintro e ww ⟨rfl,rfl⟩;rw [<-LVX.out,<-LVY.out];by_cases hlen:xl=yl
 case neg=>
  have hr:r=none:=by
   have:=HR.out;rw [if_pos (by rw [<-LX.out,<-LY.out,<-LVX.out,<-LVY.out];exact hlen)] at this;exact (Option.some.inj this).symm
  subst hr;have hle:((xl:Int) !=(yl:Int))=true:=by simp;omega
  go_wp2;exact door h0 (by omega) rfl FA2.out BX2.out HN2.out (fun s1 h=>by cases h)
 case pos=>
  subst hlen;have hle0:((xl:Int) !=(xl:Int))=false:=by simp
  obtain ⟨q0,hq0⟩: ∃q,seqN (fun s a b=>zJ E.D k s a b m) s ts bs=some q:=by
   have:=HR.out;rw [if_neg (by rw [<-LX.out,<-LY.out,<-LVX.out,<-LVY.out];simp)] at this
   cases h:seqN (fun s a b=>zJ E.D k s a b m) s ts bs with
   |none=>rw [h] at this;cases this
   |some q=>exact ⟨q,rfl⟩
  have hr2:=HR.out;rw [if_neg (by rw [<-LX.out,<-LY.out,<-LVX.out,<-LVY.out];simp),hq0] at hr2;have HR2:=hid hr2;go_wp2_with fail
  clear hle0 hr2 A179 A146 A144 A156 A142 A134 A128 A99 A148 A150 A106;obtain ⟨R,hR⟩: ∃R:Nat->St->Prop,∀j s',R j s'↔seqN (fun s a b=>zJ E.D k s a b m) s' (ts.drop j) (bs.drop j)=some q0:=⟨_,fun _ _=>Iff.rfl⟩;have HRR:=hid hR;clear hR;refine wp_loopJ xl 980 [(5,.pointer (some ⟨w.heap.size,0,none⟩)),(4,.pointer none),(3,.int .u64 z),(88,.pointer (some ⟨xa,0,none⟩)),(89,.pointer (some ⟨ya,0,none⟩)),(978,.slice ta xl tc),(979,.int .i64 xl),(91,.slice tb xl tc2)] (SeqRel E w U bm depth R) rfl rfl ⟨rfl,rfl,rfl,rfl,rfl,rfl,rfl,rfl,trivial⟩ ⟨s,hd,FA2.out,HN2.out,BX2.out,HE2.out,(HRR.out _ _).2 hq0⟩ ?_
  clear hq0;intro j t WX hj hts htx hsl hI;obtain ⟨g5,g4,g3,g88,g89,g978,g979,g91,_⟩:=hsl;obtain ⟨s1,hd1,hf,hn,hb,he,hq⟩:=hI;obtain ⟨u',rfl,hu'⟩:=relit t hts;have e980:=hu' 980 _ htx;have e5:=hu' 5 _ g5;have e4:=hu' 4 _ g4;have e3:=hu' 3 _ g3;have e88:=hu' 88 _ g88;have e89:=hu' 89 _ g89;have e978:=hu' 978 _ g978;have e979:=hu' 979 _ g979;have e91:=hu' 91 _ g91;simp only [fr,e980,e5,e4,e3,e88,e89,e978,e979,e91]
  clear hts htx hu' e980 e5 g5 e4 g4 e3 g3 e88 g88 e89 g89 e978 g978 e979 g979 e91 g91;have FW:=hid hf;have HNW:=hid hn;have BXW:=hid hb;have HEW:=hid he;have HQ:=hid ((HRR.out _ _).1 hq);clear hf hn hb he hq;by_cases hlt:j < xl
  case neg=>
   have hq1:q0=some s1:=by
    have:=HQ.out;rw [show ts.drop j= [] from List.drop_of_length_le (by rw [<-LX.out,<-LVX.out];omega),show bs.drop j= [] from List.drop_of_length_le (by rw [<-LY.out,<-LVY.out];omega),seqN] at this
    ·exact (Option.some.inj this).symm
    ·intro _ _ _ _ h;cases h
   subst hq1;have HRE:=hid (Option.some.inj HR2.out).symm;have hle: ¬(j:Int) < xl:=by omega
   have NX2:=hid (show NamedAt WX E xa f.n lx ta tc vs from ⟨fun w' F=>NX.out.args w' (FW.out.trans F),fun w' F=>NX.out.list w' (FW.out.trans F),fun w' F=>NX.out.origin w' (FW.out.trans F),NX.out.lt,NX.out.cap,NX.out.cap2,NX.out.types.keep FW.out⟩);have NY2:=hid (show NamedAt WX E ya g.n ly tb tc2 us from ⟨fun w' F=>NY.out.args w' (FW.out.trans F),fun w' F=>NY.out.list w' (FW.out.trans F),fun w' F=>NY.out.origin w' (FW.out.trans F),NY.out.lt,NY.out.cap,NY.out.cap2,NY.out.types.keep FW.out⟩)
   go_wp2_with fail
   refine (identicalOrigin_any HEW.out NX2.out NY2.out).mono ?_;rintro e w3 ⟨rfl,hf3⟩;have Z3:=hid hf3;have S3:=hid (show Fr E.A WX w3 from hf3.sub);clear hf3;have hr:=HRE.out;by_cases hfg:f.n=g.n
   ·rw [if_pos hfg] at hr
    subst hr;go_wp2;exact door h0 (by omega) (by simp [hfg]) (FW.out.trans S3.out) (S3.out.heap NB.out BXW.out) (HNW.out.keep Z3.out) (fun s1 h=>Option.some.inj h)
   ·rw [if_neg hfg] at hr
    subst hr;go_wp2;exact door h0 (by omega) (by simp [hfg]) (FW.out.trans S3.out) (S3.out.heap NB.out BXW.out) (HNW.out.keep Z3.out) (fun s1 h=>by cases h)
  case pos=>
   have hle:(j:Int) < xl:=by omega
   obtain ⟨v1,hv1⟩: ∃v,vs[j]?=some v:=⟨vs[j]'(by rw [<-LVX.out];exact hlt),by simp⟩;obtain ⟨v2,hv2⟩: ∃v,us[j]?=some v:=⟨us[j]'(by rw [<-LVY.out];exact hlt),by simp⟩;obtain ⟨t1,ht1⟩: ∃v,ts[j]?=some v:=⟨ts[j]'(by rw [<-LX.out,<-LVX.out];exact hlt),by simp⟩;obtain ⟨t2,ht2⟩: ∃v,bs[j]?=some v:=⟨bs[j]'(by rw [<-LY.out,<-LVY.out];exact hlt),by simp⟩;obtain ⟨fb,fo,rfl,hfb,_,hvx⟩:=NX.out.types.resolve_left (fun h=>by have:=LVX.out;rw [h] at this;simp at this;omega)
   obtain ⟨gb,go,rfl,hgb,_,hvy⟩:=NY.out.types.resolve_left (fun h=>by have:=LVY.out;rw [h] at this;simp at this;omega);have cx:=FW.out.cell hfb (hvx j v1 hv1);have CY:=hid (FW.out.cell hgb (hvy j v2 hv2));have GA:=hid hgb;have P1:=hid ((PX.out j v1 t1 hv1 ht1).keep FW.out);have P2:=hid ((PY.out j v2 t2 hv2 ht2).keep FW.out);have hq:=HQ.out;rw [List.drop_eq_getElem_cons (List.getElem?_eq_some_iff.1 ht1).1,List.drop_eq_getElem_cons (List.getElem?_eq_some_iff.1 ht2).1,(List.getElem?_eq_some_iff.1 ht1).2,(List.getElem?_eq_some_iff.1 ht2).2,seqN] at hq
   have HQ2:=hid hq;clear hq;have szfb:=World.block_lt_of_cell? _ _ cx;dsimp only at szfb;clear hvx hvy hv1 hv2 ht1 ht2 hfb hgb;go_wp2_with fail
   clear cx szfb;refine wp_abs fun A hA=> ?_
   have fs:A.tmps.size=1016:=by rw [hA];rfl
   have fd:A.defers= [{target:= .fn (.func 161) #[.pointer (some ⟨w.heap.size,0,none⟩)],args:= #[]}]:=by rw [hA]
   obtain ⟨b5,f5⟩:=zN (show A.tmps[5]?=some (.pointer (some ⟨w.heap.size,0,none⟩)) by rw [hA];rfl);obtain ⟨b4,f4⟩:=zN (show A.tmps[4]?=some (.pointer none) by rw [hA];rfl);obtain ⟨b3,f3⟩:=zN (show A.tmps[3]?=some (.int .u64 z) by rw [hA];rfl);obtain ⟨b88,f88⟩:=zN (show A.tmps[88]?=some (.pointer (some ⟨xa,0,none⟩)) by rw [hA];rfl);obtain ⟨b89,f89⟩:=zN (show A.tmps[89]?=some (.pointer (some ⟨ya,0,none⟩)) by rw [hA];rfl)
   obtain ⟨b978,f978⟩:=zN (show A.tmps[978]?=some (.slice (some ⟨fb,fo,none⟩) xl tc) by rw [hA];rfl);obtain ⟨b979,f979⟩:=zN (show A.tmps[979]?=some (.int .i64 xl) by rw [hA];rfl);obtain ⟨b91,f91⟩:=zN (show A.tmps[91]?=some (.slice (some ⟨gb,go,none⟩) xl tc2) by rw [hA];rfl);obtain ⟨b980,f980⟩:=zN (show A.tmps[980]?=some (.int .i64 j) by rw [hA];rfl);obtain ⟨b92,f92⟩:=zN (show A.tmps[92]?=some (.int .i64 j) by rw [hA];rfl)
   obtain ⟨b93,f93⟩:=zN (show A.tmps[93]?=some (v1) by rw [hA];rfl);clear hA;obtain ⟨tA,dA⟩:=A;dsimp only at fs fd;subst fd;have G1: ∀(t:Array Value) (i:Nat) (v:Value),i < t.size->(t.setIfInBounds i v)[i]?=some v:=fun t i v h=>wX h
   have G2: ∀(t:Array Value) (i j:Nat) (v:Value),i≠j->(t.setIfInBounds i v)[j]?=t[j]?:=fun t i j v h=>wG h
   refine wp_pg (Fr E.A WX) [(0,true),(1,true),(2,true),(3,true),(4,true),(5,true),(6,true),(7,true),(8,false),(9,false)] [] yE (by kernel_rfl) (by kernel_rfl) (by kernel_rfl) (by decide) ?_;have Z0:=hid ((Fr.refl (fun _=>False) WX).drew);have S0:=hid ((Fr.refl E.A WX).drew);generalize WX.drew=w2 at S0 Z0 ⊢;have hq4:=HQ2.out
   obtain ⟨q2,hq2⟩: ∃q,zJ E.D k s1 t1 t2 m=some q:=by
    cases h:zJ E.D k s1 t1 t2 m with
    |none=>rw [h] at hq4;cases hq4
    |some q=>exact ⟨q,rfl⟩
   rw [hq2] at hq4;have HQ3:=hid hq2;have HQ4:=hid hq4;clear hq2 hq4
   refine gl S0.out ?_ (h1:=fun w' hS=>by
    have q1:=zA (hS.heap (b:=w.heap.size) NB.out BXW.out);have c2:=hS.cell GA.out CY.out;have szw:=bl (q1 0);have szg:=World.block_lt_of_cell? _ _ c2;dsimp only at szw szg;clear hS;go_simp;rfl)
   iterate 4 (refine gl S0.out ?_)
   refine gl S0.out ?_ (h1:=fun w' hS=>by
    have q1:=zA (hS.heap (b:=w.heap.size) NB.out BXW.out);have c2:=hS.cell GA.out CY.out;have szw:=bl (q1 0);have szg:=World.block_lt_of_cell? _ _ c2;dsimp only at szw szg;clear hS;go_simp;rfl)
   refine gl S0.out ?_;refine gl S0.out ?_;refine gc 132 ?_;refine (HS.out t1 t2 v1 v2 m z _ U bm hd1 s1 (depth + 1) q2 (by omega) HQ3.out HM.out (HEW.out.keep S0.out) (HNW.out.keep Z0.out) (P1.out.keep S0.out) (P2.out.keep S0.out)).mono ?_;rintro e w4 ⟨rfl,hf4,s4,hd4,hn4,hs4⟩;have S4:=hid (S0.out.trans hf4);have HN4:=hid hn4;have HS4:=hid hs4;clear hf4 hn4 hs4;refine ⟨_,rfl,fun _=>S4.out,?_⟩
   cases q2 with
   |none=>
    have hq1:q0=none:=(Option.some.inj HQ4.out).symm;subst hq1;have hr:r=none:=(Option.some.inj HR2.out).symm;subst hr;refine gv (fun _=>S4.out) ?_;refine wO (by simp [fs]) (fun u' hu'=> ?_);have e5:=hu' 5 (.pointer (some ⟨w.heap.size,0,none⟩)) (by go_simp);have e994:=hu' 994 (.bool true) (by go_simp);simp only [fr,e5,e994];clear hu' e5 e994;go_wp2;exact door h0 (by omega) rfl (FW.out.trans S4.out) (S4.out.heap NB.out BXW.out) HN4.out (fun s1 h=>by cases h)
   |some s2=>
    refine gv (fun _=>S4.out) ?_;refine wO (by simp [fs]) (fun u' hu'=> ?_);have e5:=hu' 5 (.pointer (some ⟨w.heap.size,0,none⟩)) (by go_simp);have e4:=hu' 4 (.pointer none) (by go_simp);have e3:=hu' 3 (.int .u64 z) (by go_simp);have e88:=hu' 88 (.pointer (some ⟨xa,0,none⟩)) (by go_simp);have e89:=hu' 89 (.pointer (some ⟨ya,0,none⟩)) (by go_simp);have e978:=hu' 978 (.slice (some ⟨fb,fo,none⟩) xl tc) (by go_simp)
    have e979:=hu' 979 (.int .i64 xl) (by go_simp);have e91:=hu' 91 (.slice (some ⟨gb,go,none⟩) xl tc2) (by go_simp);have e980:=hu' 980 (.int .i64 j) (by go_simp);have e994:=hu' 994 (.bool false) (by go_simp);simp only [fr,e5,e4,e3,e88,e89,e978,e979,e91,e980,e994];clear hu' e5 e4 e3 e88 e89 e978 e979 e91 e980 e994;go_wp2;exact ⟨rfl,rfl,congrArg (fun i=>some (Value.int .i64 i)) (by omega:((j:Int) + 1)=((j + 1:Nat):Int)),⟨rfl,rfl,rfl,rfl,rfl,rfl,rfl,rfl,trivial⟩,by omega,⟨s4,hd4,FW.out.trans S4.out,HN4.out,S4.out.heap NB.out BXW.out,HEW.out.keep S4.out,(HRR.out _ _).2 (by rw [HS4.out s2 rfl];exact HQ4.out)⟩⟩
end Go.Proofs.YtpekidjfbinekaaGreatDoor
