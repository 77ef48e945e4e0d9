/-   The law FnRenamed: what is plain. -/
import Derived.Test.YtpekidjfbinekaaGreatDoorL11R
import Derived.Test.YtpekidjfbinekaaGreatDoorL14R
import Derived.Test.YtpekidjfbinekaaGreatDoorA04
set_option maxRecDepth 100000
set_option maxHeartbeats 60000000
set_option linter.all false
namespace Go.Proofs.YtpekidjfbinekaaGreatDoor
open Go.RowKit Uni
theorem swp_swp (p q i:Nat):swp p q (swp p q i)=i:=by
 unfold swp;by_cases h1:i=p
 ·subst h1
  rw [if_pos rfl];by_cases h2:q=i
  ·rw [if_pos h2];exact h2
  ·rw [if_neg h2,if_pos rfl]
 ·rw [if_neg h1]
  by_cases h2:i=q
  ·subst h2;rw [if_pos rfl,if_pos rfl]
  ·rw [if_neg h2,if_neg h1,if_neg h2]
theorem swp_lt {p q i n:Nat}(hp:p < n)(hq:q < n)(hi:i < n):swp p q i < n:=by
 unfold swp
 split
 ·exact hq
 ·split
  ·exact hp
  ·exact hi
theorem sub_swp (p q:Nat): ∀t:Tm,(t.sub (nums (swp p q))).sub (nums (swp p q))=t:=by
 intro t
 induction t using Tm.ind with
 |hv i=>rw [Tm.sub_var];show (Tm.var (swp p q i)).sub _=_;rw [Tm.sub_var];show Tm.var (swp p q (swp p q i))=_;rw [swp_swp]
 |hn f ts ih=>
  rw [Tm.sub_node,Tm.sub_node,List.map_map]
  congr 1
  exact (List.map_congr_left fun a ha=>ih a ha).trans (List.map_id' ts)
theorem holes2_nums {n:Nat}{π:Nat->Nat}(hπ: ∀i,i < n->π i < n){t:Tm}(h:Holes 2 n t):Holes 2 n (t.sub (nums π)):=by
 induction h with
 |var i hi=>rw [Tm.sub_var];exact .var _ (fun _=>hπ i (hi rfl))
 |node f ts h1 _ ih=>
  rw [Tm.sub_node];refine .node f _ h1 fun t ht=> ?_
  obtain ⟨u,hu,rfl⟩:=List.mem_map.1 ht;exact ih u hu
theorem holes3_nums {π:Nat->Nat}{t:Tm}(h:Holes 3 0 t):Holes 3 0 (t.sub (nums π)):=by
 induction h with
 |var i hi=>rw [Tm.sub_var];exact .var _ (fun h=>absurd h (by decide))
 |node f ts h1 _ ih=>
  rw [Tm.sub_node];refine .node f _ h1 fun t ht=> ?_
  obtain ⟨u,hu,rfl⟩:=List.mem_map.1 ht;exact ih u hu
theorem TIn.nums {w w':World}{nd:Nat}{ar:Nat->Nat}{n:Nat}{x r:TyV}{t:Tm}{π:Nat->Nat}(h:TIn w nd ar n x t)(hπ: ∀i,i < n->π i < n)(hr:RT w' F0 r (t.sub (Uni.nums π))):TIn w' nd ar n r (t.sub (Uni.nums π)):=
 ⟨hr,h.g.sub (fun p=> .var _),holes2_nums hπ h.h2,holes3_nums h.h3⟩
theorem own_sub {k:Nat}{l:List Tm}{θ:Nat->Tm}(hl:l.length=k){b:Tm}(h2:Holes 2 0 b)(h3:Holes 3 k b):(b.own l).sub θ=b.own (l.map (Tm.sub θ)):=by
 induction h2 with
 |var p h=>exact absurd (h rfl) (by omega)
 |node f ts _ _ ih=>
  cases h3 with
  |node _ _ h4 h5=>
  rw [Tm.own_node,Tm.own_node]
  split
  ·rename_i hk
   have:=h4 hk.symm;rw [List.getD_eq_getElem?_getD,List.getD_eq_getElem?_getD,List.getElem?_map,List.getElem?_eq_getElem (by omega)];rfl
  ·rw [Tm.sub_node,List.map_map]
   congr 1
   exact List.map_congr_left fun a ha=>ih a ha (h5 a ha)
theorem WQ.swap {w:World}{da:Option Addr}{dl:Nat}{ar:Nat->Nat}{D:zE}(h:DeclT w da dl ar D)(n p q:Nat):Eqv D (swp p q) (WQ dl ar n):=by
 refine ⟨swp_swp p q,(WQ.eqv h n).kid,(WQ.eqv h n).und,fun t hq=> ?_⟩
 cases t with
 |var i=>rw [Tm.sub_var];show Uni.und D (.var _)=(Tm.var i).sub _;rw [Tm.sub_var];rfl
 |node f ts=>
  rw [Tm.sub_node];by_cases hf:f.kind=1
  ·obtain ⟨hn,hl⟩:=hq.1.lab.1.k1 hf
   rw [show Uni.und D (.node f ts)=(D f.n).own ts by simp [Uni.und,hf],show Uni.und D (.node f (ts.map (Tm.sub (nums (swp p q)))))=(D f.n).own (ts.map (Tm.sub (nums (swp p q)))) by simp [Uni.und,hf]];exact (own_sub hl (h.d.noVar f.n hn) (h.d.own f.n hn)).symm
  ·rw [xO f ts hf,xO f _ hf,Tm.sub_node]
theorem impl_self {w:World}{da:Option Addr}{dl dc n:Nat}{ar:Nat->Nat}{D:zE}{x y:TyV}{s t:Tm}(h:LIn w da dl ar D n)(hx:TIn w dl ar n x s)(hy:TIn w dl ar n y t){o:Option St}(hf:RefFact D s t .exact o):
 Calls Tryz.prog 20 #[.slice da dl dc,.int .i64 n,x.val,y.val,.int .i64 (zU .exact)] w fun e w'=> ∃(a:Option Addr) (c:Nat) (ls:List (Bool × TyV)),e= .returned (.tuple #[.slice a n c,.bool o.isSome])∧Fr F0 w w'∧n≤c∧ls.length=n∧
  ∀s1,o=some s1->InfOf w' a ls ((List.range n).map fun p=>s1.v (s1.j p)):=by
 have hf':=hf;obtain ⟨⟨M,hM,hq⟩,hr⟩:=hf';obtain ⟨okk,a,b,ha,hb,hab⟩:=hq (s,t) (by simp);obtain ⟨hpok,hres⟩:=joint_one h.d.ok hM h.d.body hx.fit hy.fit okk ⟨a,b,ha,hb,hab⟩ .exact hr;have fine:Fine D M dl ar 50 St.init s t:=⟨⟨a,b,by omega,ha,hb⟩,okk,Inv.init M,hx.fit,hy.fit,fun P t h=>by simp [St.init] at h⟩;refine (unify20_any (dc:=dc) w h.din .exact x y s t hx hy hpok).mono ?_;rintro e w' ⟨a,c,ls,oks,s2,rfl,hfr,hp,hll,hinf,hc⟩
 have hR:=hres oks s2 hp
 cases o with
 |none=>
  refine ⟨a,c,ls,?_,hfr,hc,hll,fun s1 h=>by cases h⟩;rw [show okB oks ([(s,t)]:List (Tm × Tm)).length=false from hR.1 rfl];rfl
 |some s1=>
  obtain ⟨hb,hn⟩:=hR.2 s1 rfl;refine ⟨a,c,ls,?_,hfr,hc,hll,fun s1' e=> ?_⟩
  ·rw [show okB oks ([(s,t)]:List (Tm × Tm)).length=true from hb];rfl
  ·cases e
   cases hp with
   |fail=>cases hb
   |ok _ s3 _ _ _ _ os h1 h2=>
    cases h2
    have e1:=(sim h.d.ok hM h.d.body 50 50 St.init s t .exact (by simp) fine _ hr).1 _ h1;cases e1.get
    exact hinf
section
variable {w:World}{da:Option Addr}{dl dc n:Nat}{ar:Nat->Nat}{D:zE}{x y r r2:TyV}{s t:Tm}
theorem exact_facts (h:LIn w da dl ar D n)(hx:TIn w dl ar n x s)(hy:TIn w dl ar n y t){s1:St}(hf:RefFact D s t .exact (some s1)):zJ D 50 St.init s t .exact=some (some s1)/\yS (WQ dl ar n) s1/\ ∃M,Inv M s1/\Live D M s1:=by
 obtain ⟨⟨M,hM,hq⟩,hr⟩:=hf;obtain ⟨okk,a,b,ha,hb,hab⟩:=hq (s,t) (by simp);have fine:Fine D M dl ar 50 St.init s t:=⟨⟨a,b,by omega,ha,hb⟩,okk,Inv.init M,hx.fit,hy.fit,fun P t h=>by simp [St.init] at h⟩;obtain ⟨q,hn,_⟩:=nifyT_ends h.d.ok hM 50 a b St.init s t .exact (by omega) okk ha hb (Inv.init M);have e1:=(sim h.d.ok hM h.d.body 50 50 St.init s t .exact (by simp) fine _ hr).1 q hn;cases e1.get
 obtain ⟨hi,hl⟩:=state_of h.d.ok hM h.d.body hx.fit hy.fit okk ⟨a,b,ha,hb,hab⟩ hr;exact ⟨hn,nify_wq h.d ⟨hx.fit,hx.h2⟩ ⟨hy.fit,hy.h2⟩ (fun P t h=>by simp [St.init] at h) (ren_id _) hn,M,hi,hl⟩
theorem impl_swap (h:LIn w da dl ar D n)(hx:TIn w dl ar n x s)(hy:TIn w dl ar n y t){p q:Nat}(hr:TIn w dl ar n r (s.sub (nums (swp p q))))(hr2:TIn w dl ar n r2 (t.sub (nums (swp p q)))){o:Option St}(hf:RefFact D s t .exact o):
 Calls Tryz.prog 20 #[.slice da dl dc,.int .i64 n,r.val,r2.val,.int .i64 (zU .exact)] w fun e w'=> ∃(a:Option Addr) (c:Nat) (ls:List (Bool × TyV)),e= .returned (.tuple #[.slice a n c,.bool o.isSome])∧Fr F0 w w'∧n≤c∧ls.length=n∧
  ∀s1,o=some s1-> ∃s2,InfOf w' a ls ((List.range n).map fun p=>s2.v (s2.j p))/\Ren (swp p q) s1 s2:=by
 have hf':=hf;obtain ⟨⟨M,hM,hq⟩,hr1⟩:=hf';obtain ⟨okk,a,b,ha,hb,hab⟩:=hq (s,t) (by simp);have fine:Fine D M dl ar 50 St.init s t:=⟨⟨a,b,by omega,ha,hb⟩,okk,Inv.init M,hx.fit,hy.fit,fun P t h=>by simp [St.init] at h⟩;obtain ⟨q1,hn,_⟩:=nifyT_ends h.d.ok hM 50 a b St.init s t .exact (by omega) okk ha hb (Inv.init M);have ag:=(sim h.d.ok hM h.d.body 50 50 St.init s t .exact (by simp) fine _ hr1).1 q1 hn
 have ev:=WQ.swap h.d n p q;have rn:=nify_ren ev 50 .exact St.init St.init s t ⟨hx.fit,hx.h2⟩ ⟨hy.fit,hy.h2⟩ (fun P t h=>by simp [St.init] at h) (Ren.init ev);simp only [hn] at rn
 obtain ⟨q2,hq2⟩: ∃q2,zJ D 50 St.init (s.sub (nums (swp p q))) (t.sub (nums (swp p q))) .exact=some q2:=by
  cases h:zJ D 50 St.init (s.sub (nums (swp p q))) (t.sub (nums (swp p q))) .exact with
  |none=>rw [h] at rn;cases q1 <;>exact rn.elim
  |some q2=>exact ⟨q2,rfl⟩
 rw [hq2] at rn;refine (unify20_any (dc:=dc) w h.din .exact r r2 _ _ hr hr2 ⟨q2,hq2,fun _ _=>trivial⟩).mono ?_;rintro e w' ⟨a,c,ls,oks,sz,rfl,hfr,hp,hll,hinf,hc⟩
 cases o with
 |none=>
  obtain rfl:q1=none:=ag
  cases q2 with
  |some s2=>exact rn.elim
  |none=>
   refine ⟨a,c,ls,?_,hfr,hc,hll,fun s1 h=>by cases h⟩
   cases hp with
   |ok _ s3 _ _ _ _ os h1 h2=>rw [hq2] at h1;cases h1
   |fail=>rfl
 |some s1=>
  cases ag.get
  cases q2 with
  |none=>exact rn.elim
  |some s2=>
   cases hp with
   |fail _ _ _ _ _ h1=>rw [hq2] at h1;cases h1
   |ok _ s3 _ _ _ _ os h1 h2=>
    rw [hq2] at h1;cases h1;cases h2
    exact ⟨a,c,ls,rfl,hfr,hc,hll,fun s1' e=>by cases e;exact ⟨_,hinf,rn.1⟩⟩
theorem agrees_self {B:UB}{s1:St}{pv:Value}{M:Mg}(hE:UEnv da dl dc D ar w B n s1 pv)(hi:Inv M s1)(hl:Live D M s1)(hwq:yS (WQ dl ar n) s1)(w':World)(hf:Fr F0 w w')(la:Option Addr)(lc:Nat)(ls:List (Bool × TyV))(hll:ls.length=n)
 (hinf:InfOf w' la ls ((List.range n).map fun p=>s1.v (s1.j p))):Calls Tryz.prog 24 #[.pointer (some ⟨B.u,0,none⟩),.slice la n lc] w' (YesB w'):=by
 obtain ⟨N,hN⟩:=near_facts (nd:=dl) (ar:=ar) hi hl (.refl s1) n
 exact agrees_any hE.U N hE.M w' hf la lc ls ((List.range n).map fun p=>s1.v (s1.j p)) hinf.1 hll (by simp) (fun i p o hi ho=>by
  obtain ⟨h1,h2⟩:=hinf.2 i p o hi ho;have hin:i < n:=by have:=(List.getElem?_eq_some_iff.mp ho).1;simpa using this
  have ho':o=s1.v (s1.j i):=by
   rw [List.getElem?_map,List.getElem?_range hin] at ho;exact (Option.some.inj ho).symm
  obtain ⟨h3,h4⟩:=hN i hin;refine ⟨h1,by rw [ho'],fun t ht=> ?_⟩;obtain ⟨h5,h6,h7⟩:=h4 t (by rw [<-ho'];exact ht);exact ⟨h2 t (.inl ht),(hwq (s1.j i) t (by rw [<-ho'];exact ht)).2,h5,h6,h7⟩)
end
end Go.Proofs.YtpekidjfbinekaaGreatDoor
