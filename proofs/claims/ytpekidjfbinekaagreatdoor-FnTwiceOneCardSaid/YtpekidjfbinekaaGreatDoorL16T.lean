import Derived.Test.YtpekidjfbinekaaGreatDoorL15T
import Derived.Test.YtpekidjfbinekaaGreatDoorL18T
set_option maxRecDepth 100000
set_option maxHeartbeats 60000000
set_option linter.all false
namespace Go.Proofs.YtpekidjfbinekaaGreatDoor
open Go.RowKit Uni
def pl:Lab:=⟨9,0,0,false,[[65],[66]]⟩
theorem pair_tin {w:World}{dl:Nat}{ar:Nat->Nat}{n:Nat}{x y:TyV}{s t:Tm}{b:Nat}(hx:TIn w dl ar n x s)(hy:TIn w dl ar n y t)(hb:w.heap[b]?=some (.cells (arr12 {x with nm:=⟨#[65]⟩} {y with nm:=⟨#[66]⟩}) 26 (0,0))):
 TIn w dl ar n ⟨9,0,0,false,some ⟨b,0,none⟩,2,2,⟨#[]⟩⟩ (.node pl [s,t]):=by
 have q:=zA hb
 have kids: ∀u∈ [s,t],Uni.Good dl ar u∧Holes 2 n u∧Holes 3 0 u:=fun u hu=>by
  simp at hu;rcases hu with rfl | rfl
  ·exact ⟨hx.g,hx.h2,hx.h3⟩
  ·exact ⟨hy.g,hy.h2,hy.h3⟩
 refine ⟨.node _ pl [{x with nm:=⟨#[65]⟩},{y with nm:=⟨#[66]⟩}] [s,t] ⟨rfl,by decide,by decide,rfl,⟨rfl,rfl⟩,by simp [pl,toList_one],rfl,⟨Nat.le_refl _,by show 2≤1954687338211;decide,by show 2≤maxLen;decide⟩⟩ rfl ?_ ?_,.node pl _ ⟨by decide,by decide,fun h=>absurd h (by decide),fun h=>absurd h (by decide),fun h=>absurd h (by decide),fun h=>absurd h (by decide),fun h=>absurd h (by decide),fun h=>absurd h (by decide),fun _=>⟨rfl,by decide,fun m hm=> ?_⟩,fun h=>absurd h (by decide)⟩ (fun u hu=>(kids u hu).1),
  .node _ _ (fun h=>absurd h (by decide)) (fun u hu=>(kids u hu).2.1),.node _ _ (fun h=>absurd h (by decide)) (fun u hu=>(kids u hu).2.2)⟩
 ·refine .inr ⟨b,0,rfl,fun i z hz=> ?_⟩
  match i,hz with
  |0,hz=>cases hz;exact ⟨id,q 0,q 1,q 2,q 3,q 4,q 5⟩
  |1,hz=>cases hz;exact ⟨id,q 6,q 7,q 8,q 9,q 10,q 11⟩
 ·intro i z u hz hu
  match i,hz,hu with
  |0,hz,hu=>cases hz;cases hu;exact hx.r.rename _
  |1,hz,hu=>cases hz;cases hu;exact hy.r.rename _
 ·simp [pl] at hm
  rcases hm with rfl | rfl
  ·exact ⟨65,rfl,by decide,by decide⟩
  ·exact ⟨66,rfl,by decide,by decide⟩
section
variable {w:World}{da:Option Addr}{dl n:Nat}{ar:Nat->Nat}{D:zE}{x y x2 y2:TyV}{s t s2 t2:Tm}
theorem twice_struct (h:LIn w da dl ar D n)(hx:TIn w dl ar n x s)(hy:TIn w dl ar n y t)(hx2:TIn w dl ar n x2 s2)(hy2:TIn w dl ar n y2 t2){o:Option St}(hf:RefFact D (.node pl [s,s2]) (.node pl [t,t2]) .exact o):
 PairsOk D .exact St.init [(s,t),(s2,t2)]/\ ∀oks s',PairsR D .exact St.init [(s,t),(s2,t2)] oks s'->okB oks 2=o.isSome/\ ∀sE,o=some sE->s'=sE:=by
 obtain ⟨⟨M,hM,hq⟩,hr⟩:=hf;obtain ⟨okk,a,b,ha,hb,hab⟩:=hq (.node pl [s,s2],.node pl [t,t2]) (by simp);have ok1:xL D M s t:=fun k=>(okk (k + 1)).2.2 0 s t rfl rfl
 have ok2:xL D M s2 t2:=fun k=>(okk (k + 1)).2.2 1 s2 t2 rfl rfl
 obtain ⟨a1,la1,ha1⟩:=ha.kid (a:=s) (by simp);obtain ⟨b1,lb1,hb1⟩:=hb.kid (a:=t) (by simp);obtain ⟨a2,la2,ha2⟩:=ha.kid (a:=s2) (by simp);obtain ⟨b2,lb2,hb2⟩:=hb.kid (a:=t2) (by simp);have fine: ∀N,49<=N->Fine D M dl ar N St.init s t:=fun N hN=>⟨⟨a1,b1,by omega,ha1,hb1⟩,ok1,Inv.init M,hx.fit,hy.fit,fun P t h=>by simp [St.init] at h⟩
 have hr':seqS (fun s a b=>zI D 49 s a b .exact) St.init [s,s2] [t,t2]=some (okO o):=by
  rw [zI,yF,if_neg (by simp),if_neg (by simp),if_neg (by simp),if_neg (by simp),if_neg (by simp),if_pos ⟨rfl,rfl⟩] at hr;exact hr
 obtain ⟨q,hq1,_⟩:=nifyT_ends h.d.ok hM 50 a1 b1 St.init s t .exact (by omega) ok1 ha1 hb1 (Inv.init M);rw [seqS] at hr'
 cases e1:zI D 49 St.init s t .exact with
 |none=>rw [e1] at hr';cases hr'
 |some r1=>
  have g1:=(sim h.d.ok hM h.d.body 49 50 St.init s t .exact (by simp) (fine 49 (by omega)) _ e1).1 q hq1;rw [e1] at hr'
  cases r1 with
  |silent=>cases o <;>cases hr'
  |fail=>
   obtain rfl:q=none:=g1
   cases o with
   |some s'=>cases hr'
   |none=>
    refine ⟨⟨none,hq1,fun _ e=>by cases e⟩,fun oks s' hp=>⟨?_,fun sE e=>by cases e⟩⟩
    cases hp with
    |ok _ s1 _ _ _ _ os h1 h2=>rw [hq1] at h1;cases h1
    |fail=>rfl
  |ok s1=>
   cases g1.get
   obtain ⟨hi,hfit⟩:=(fine 49 (by omega)).post hM h.d.body e1;have fine2:Fine D M dl ar 49 s1 s2 t2:=⟨⟨a2,b2,by omega,ha2,hb2⟩,ok2,hi,hx2.fit,hy2.fit,hfit⟩;obtain ⟨q2,hq2,_⟩:=nifyT_ends h.d.ok hM 50 a2 b2 s1 s2 t2 .exact (by omega) ok2 ha2 hb2 hi;simp only at hr';rw [seqS] at hr'
   cases e2:zI D 49 s1 s2 t2 .exact with
   |none=>rw [e2] at hr';cases hr'
   |some r2=>
    have g2:=(sim h.d.ok hM h.d.body 49 50 s1 s2 t2 .exact (by simp) fine2 _ e2).1 q2 hq2;rw [e2] at hr';refine ⟨⟨some s1,hq1,fun s1' e=>by cases e;exact ⟨q2,hq2,fun _ _=>trivial⟩⟩,fun oks s' hp=> ?_⟩
    cases r2 with
    |silent=>cases o <;>cases hr'
    |fail=>
     obtain rfl:q2=none:=g2
     cases o with
     |some s'=>cases hr'
     |none=>
      refine ⟨?_,fun sE e=>by cases e⟩
      cases hp with
      |fail _ _ _ _ _ h1=>rw [hq1] at h1;cases h1
      |ok _ s1' _ _ _ _ os h1 h2=>
       rw [hq1] at h1;cases h1
       cases h2 with
       |ok _ s3 _ _ _ _ os h3 h4=>rw [hq2] at h3;cases h3
       |fail=>rfl
    |ok s3=>
     cases g2.get
     cases o with
     |none=>simp [seqS,okO] at hr'
     |some sE=>
      have e:s3=sE:=by simpa [seqS,okO] using hr'
      subst e
      cases hp with
      |fail _ _ _ _ _ h1=>rw [hq1] at h1;cases h1
      |ok _ s1' _ _ _ _ os h1 h2=>
       rw [hq1] at h1;cases h1
       cases h2 with
       |fail _ _ _ _ _ h3=>rw [hq2] at h3;cases h3
       |ok _ s4 _ _ _ _ os h3 h4=>
        rw [hq2] at h3;cases h3;cases h4
        exact ⟨rfl,fun sE e=>by cases e;rfl⟩
end
end Go.Proofs.YtpekidjfbinekaaGreatDoor
