/-   The law FnTwice. -/
import Derived.Test.YtpekidjfbinekaaGreatDoorL4V
import Derived.Test.YtpekidjfbinekaaGreatDoorJ9V
import Derived.Test.YtpekidjfbinekaaGreatDoorL19V
set_option maxRecDepth 100000
set_option maxHeartbeats 60000000
set_option linter.all false
namespace Go.Proofs.YtpekidjfbinekaaGreatDoor
open Go.RowKit Uni
section
variable {w:World}{da:Option Addr}{dl dc n:Nat}{ar:Nat->Nat}{D:zE}{x y x2 y2:TyV}{s t s2 t2:Tm}
theorem Tame.first {q:Tm × Tm}{l:List (Tm × Tm)}(h:Tame D (q::l)):Tame D [q]:=by
 obtain ⟨M,hM,hq⟩:=h;exact ⟨M,hM,fun r hr=>hq r (by simp at hr;simp [hr])⟩
theorem joint_fail (h:LIn w da dl ar D n)(hx:TIn w dl ar n x s)(hy:TIn w dl ar n y t){m:Uni.Mode}(hT:Tame D [(s,t)])(hr:zI D 50 St.init s t m=some .fail)(s2 t2:Tm):
 PairsOk D m St.init [(s,t),(s2,t2)]/\ ∀oks s',PairsR D m St.init [(s,t),(s2,t2)] oks s'->okB oks 2=false:=by
 obtain ⟨M,hM,hq⟩:=hT;obtain ⟨okk,hh⟩:=hq (s,t) (by simp);obtain ⟨⟨q,hq1,_⟩,hres⟩:=joint_one h.d.ok hM h.d.body hx.fit hy.fit okk hh m hr
 have hn:q=none:=by
  cases q with
  |none=>rfl
  |some s1=>cases (hres [true] s1 (.ok _ s1 _ _ _ _ _ hq1 (.nil s1))).1 rfl
 subst hn;refine ⟨⟨none,hq1,fun s1 e=>by cases e⟩,fun oks s' hp=> ?_⟩
 cases hp with
 |ok _ s1 _ _ _ _ os h1 h2=>rw [hq1] at h1;cases h1
 |fail=>rfl
theorem agrees_near {B:UB}{s1 sz:St}{pv:Value}{M:Mg}(hE:UEnv da dl dc D ar w B n s1 pv)(hi:Inv M s1)(hl:Live D M s1)(hn:Near D M dl ar s1 sz)(hwq:yS (WQ dl ar n) sz)(w':World)(hf:Fr F0 w w')(la:Option Addr)(lc:Nat)(ls:List (Bool × TyV))(hll:ls.length=n)
 (hinf:InfOf w' la ls ((List.range n).map fun p=>sz.v (sz.j p))):Calls Tryz.prog 24 #[.pointer (some ⟨B.u,0,none⟩),.slice la n lc] w' (YesB w'):=by
 obtain ⟨N,hN⟩:=near_facts hi hl hn n
 exact agrees_any hE.U N hE.M w' hf la lc ls ((List.range n).map fun p=>sz.v (sz.j p)) hinf.1 hll (by simp) (fun i p o hi ho=>by
  obtain ⟨h1,h2⟩:=hinf.2 i p o hi ho;have hin:i < n:=by have:=(List.getElem?_eq_some_iff.mp ho).1;simpa using this
  have ho':o=sz.v (sz.j i):=by
   rw [List.getElem?_map,List.getElem?_range hin] at ho;exact (Option.some.inj ho).symm
  obtain ⟨h3,h4⟩:=hN i hin;refine ⟨h1,by rw [ho'];exact h3,fun t ht=> ?_⟩;obtain ⟨h5,h6,h7⟩:=h4 t (by rw [<-ho'];exact ht);exact ⟨h2 t ht,(hwq (sz.j i) t (by rw [<-ho'];exact ht)).2,h5,h6,h7⟩)
end
end Go.Proofs.YtpekidjfbinekaaGreatDoor
