import Derived.Test.YtpekidjfbinekaaGreatDoorL4T
set_option maxRecDepth 100000
set_option maxHeartbeats 60000000
set_option linter.all false
namespace Go.Proofs.YtpekidjfbinekaaGreatDoor
open Go.RowKit Uni
theorem impl_self {w:World}{da:Option Addr}{dl dc n:Nat}{ar:Nat->Nat}{D:zE}{x y:TyV}{s t:Tm}(h:LIn w da dl ar D n)(hx:TIn w dl ar n x s)(hy:TIn w dl ar n y t){o:Option St}(hf:RefFact D s t .exact o):
 Calls Tryz.prog 20 #[.slice da dl dc,.int .i64 n,x.val,y.val,.int .i64 (zU .exact)] w fun e w'=> ∃(a:Option Addr) (c:Nat) (ls:List (Bool × TyV)),e= .returned (.tuple #[.slice a n c,.bool o.isSome])∧Fr F0 w w'∧n≤c∧ls.length=n∧
  ∀s1,o=some s1->InfOf w' a ls ((List.range n).map fun p=>s1.v (s1.j p)):=by
 have hf':=hf;obtain ⟨⟨M,hM,hq⟩,hr⟩:=hf';obtain ⟨okk,a,b,ha,hb,hab⟩:=hq (s,t) (by simp);obtain ⟨hpok,hres⟩:=joint_one h.d.ok hM h.d.body hx.fit hy.fit okk ⟨a,b,ha,hb,hab⟩ .exact hr;have fine:Fine D M dl ar 50 St.init s t:=⟨⟨a,b,by omega,ha,hb⟩,okk,Inv.init M,hx.fit,hy.fit,fun P t h=>by simp [St.init] at h⟩;refine (unify20_any (dc:=dc) w h.din .exact x y s t hx hy hpok).mono ?_;rintro e w' ⟨a,c,ls,oks,s2,rfl,hfr,hp,hll,hinf,hc⟩
 have hR:=hres oks s2 hp
 cases o with
 |none=>
  refine ⟨a,c,ls,?_,hfr,hc,hll,fun s1 h=>by cases h⟩;rw [show okB oks ([(s,t)]:List (Tm × Tm)).length=false from hR.1 rfl];rfl
 |some s1=>
  obtain ⟨hb,hn⟩:=hR.2 s1 rfl;refine ⟨a,c,ls,?_,hfr,hc,hll,fun s1' e=> ?_⟩
  ·rw [show okB oks ([(s,t)]:List (Tm × Tm)).length=true from hb];rfl
  ·cases e
   cases hp with
   |fail=>cases hb
   |ok _ s3 _ _ _ _ os h1 h2=>
    cases h2
    have e1:=(sim h.d.ok hM h.d.body 50 50 St.init s t .exact (by simp) fine _ hr).1 _ h1;cases e1.get
    exact hinf
section
variable {w:World}{da:Option Addr}{dl dc n:Nat}{ar:Nat->Nat}{D:zE}{x y r r2:TyV}{s t:Tm}
theorem exact_facts (h:LIn w da dl ar D n)(hx:TIn w dl ar n x s)(hy:TIn w dl ar n y t){s1:St}(hf:RefFact D s t .exact (some s1)):zJ D 50 St.init s t .exact=some (some s1)/\yS (WQ dl ar n) s1/\ ∃M,Inv M s1/\Live D M s1:=by
 obtain ⟨⟨M,hM,hq⟩,hr⟩:=hf;obtain ⟨okk,a,b,ha,hb,hab⟩:=hq (s,t) (by simp);have fine:Fine D M dl ar 50 St.init s t:=⟨⟨a,b,by omega,ha,hb⟩,okk,Inv.init M,hx.fit,hy.fit,fun P t h=>by simp [St.init] at h⟩;obtain ⟨q,hn,_⟩:=nifyT_ends h.d.ok hM 50 a b St.init s t .exact (by omega) okk ha hb (Inv.init M);have e1:=(sim h.d.ok hM h.d.body 50 50 St.init s t .exact (by simp) fine _ hr).1 q hn;cases e1.get
 obtain ⟨hi,hl⟩:=state_of h.d.ok hM h.d.body hx.fit hy.fit okk ⟨a,b,ha,hb,hab⟩ hr;exact ⟨hn,nify_wq h.d ⟨hx.fit,hx.h2⟩ ⟨hy.fit,hy.h2⟩ (fun P t h=>by simp [St.init] at h) (ren_id _) hn,M,hi,hl⟩
theorem agrees_self {B:UB}{s1:St}{pv:Value}{M:Mg}(hE:UEnv da dl dc D ar w B n s1 pv)(hi:Inv M s1)(hl:Live D M s1)(hwq:yS (WQ dl ar n) s1)(w':World)(hf:Fr F0 w w')(la:Option Addr)(lc:Nat)(ls:List (Bool × TyV))(hll:ls.length=n)
 (hinf:InfOf w' la ls ((List.range n).map fun p=>s1.v (s1.j p))):Calls Tryz.prog 24 #[.pointer (some ⟨B.u,0,none⟩),.slice la n lc] w' (YesB w'):=by
 obtain ⟨N,hN⟩:=near_facts (nd:=dl) (ar:=ar) hi hl (.refl s1) n
 exact agrees_any hE.U N hE.M w' hf la lc ls ((List.range n).map fun p=>s1.v (s1.j p)) hinf.1 hll (by simp) (fun i p o hi ho=>by
  obtain ⟨h1,h2⟩:=hinf.2 i p o hi ho;have hin:i < n:=by have:=(List.getElem?_eq_some_iff.mp ho).1;simpa using this
  have ho':o=s1.v (s1.j i):=by
   rw [List.getElem?_map,List.getElem?_range hin] at ho;exact (Option.some.inj ho).symm
  obtain ⟨h3,h4⟩:=hN i hin;refine ⟨h1,by rw [ho'],fun t ht=> ?_⟩;obtain ⟨h5,h6,h7⟩:=h4 t (by rw [<-ho'];exact ht);exact ⟨h2 t (.inl ht),(hwq (s1.j i) t (by rw [<-ho'];exact ht)).2,h5,h6,h7⟩)
end
end Go.Proofs.YtpekidjfbinekaaGreatDoor
