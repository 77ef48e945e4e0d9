/- P10, P11, P12, P14 -/
import Derived.Test.YtpekidjfbinekaaGreatDoorA02
set_option maxRecDepth 100000
set_option maxHeartbeats 60000000
set_option linter.all false
section
namespace Uni
section
variable {D:zE}{M:Mg}{nd:Nat}{ar:Nat->Nat}
def Tall (D:zE)(M:Mg)(p:Nat):Prop:= ∃n,Ht D M n (.var p)
def Sol (D:zE)(M:Mg)(θ:Nat->Tm)(s:St):Prop:= ∀p,Tall D M p->θ p=θ (s.j p)/\ ∀t,s.v (s.j p)=some t->θ p=t.sub θ
def Live (D:zE)(M:Mg)(s:St):Prop:= ∀p t,s.v (s.j p)=some t->Tall D M p
theorem Tall.cls {p q:Nat}(h:Tall D M p)(hc:M.cls p=M.cls q):Tall D M q:=by
 obtain ⟨n,h⟩:=h;exact ⟨n,h.cls hc⟩
theorem Sol.of_join {θ:Nat->Tm}{s:St}(hs:Inv M s){p q:Nat}(hv:s.v (s.j p)=none\/s.v (s.j q)=none)(h:Sol D M θ (s.join (s.j p) (s.j q)))(hp:Tall D M p)(hq:Tall D M q):Sol D M θ s/\θ p=θ q:=by
 have jv: ∀i,(s.join (s.j p) (s.j q)).j i=if s.j i=s.j p\/s.j i=s.j q then min (s.j p) (s.j q) else s.j i:=fun i=>rfl
 have key: ∀i,Tall D M i->(s.j i=s.j p\/s.j i=s.j q)->θ i=θ (min (s.j p) (s.j q)):=fun i hi h1=>by
  have:=(h i hi).1;rw [jv,if_pos h1] at this;exact this
 refine ⟨fun i hi=>⟨?_,fun t ht=> ?_⟩,by rw [key p hp (.inl rfl),key q hq (.inr rfl)]⟩
 ·by_cases h1:s.j i=s.j p\/s.j i=s.j q
  ·rw [key i hi h1,key (s.j i) (hi.cls (hs.cls i).symm) (by rw [hs.idem i];exact h1)]
  ·have:=(h i hi).1
   rw [jv,if_neg h1] at this;exact this
 ·have h2:=(h i hi).2 t
  rw [jv] at h2;apply h2;simp only [St.join];by_cases h1:s.j i=s.j p\/s.j i=s.j q
  ·rw [if_pos h1,if_pos rfl]
   rcases h1 with h1 | h1
   ·rw [h1] at ht;rw [ht]
   ·rw [h1] at ht
    rcases hv with hv | hv
    ·rw [hv];exact ht
    ·rw [hv] at ht;cases ht
  ·rw [if_neg h1,if_neg,ht]
   intro h3;apply h1;rcases Nat.le_total (s.j p) (s.j q) with hl | hl
   ·rw [Nat.min_eq_left hl] at h3;exact .inl h3
   ·rw [Nat.min_eq_right hl] at h3;exact .inr h3
theorem Sol.of_putAt {θ:Nat->Tm}{s:St}{p:Nat}{t:Tm}(hv:s.v (s.j p)=none)(h:Sol D M θ (s.putAt (s.j p) t))(hp:Tall D M p):Sol D M θ s/\θ p=t.sub θ:=by
 refine ⟨fun i hi=>⟨(h i hi).1,fun u hu=>(h i hi).2 u ?_⟩,(h p hp).2 t ?_⟩
 ·simp only [St.putAt]
  rw [if_neg]
  ·exact hu
  ·intro h1;rw [h1,hv] at hu;cases hu
 ·simp [St.putAt]
def SolStep (D:zE)(M:Mg)(nd:Nat)(ar:Nat->Nat)(N:Nat):Prop:=
 ∀s x y s',Fine D M nd ar N s x y->zI D N s x y .exact=some (.ok s')-> ∀θ,Sol D M θ s'->Sol D M θ s/\x.sub θ=y.sub θ
theorem seqS_sol {I:St->Prop}{step:St->Tm->Tm->Option Res}: ∀(as bs:List Tm)(s s':St),as.length=bs.length->
 (∀(i:Nat) (a b:Tm) (s s':St),as[i]?=some a->bs[i]?=some b->I s->step s a b=some (.ok s')->I s'/\ ∀θ,Sol D M θ s'->Sol D M θ s/\a.sub θ=b.sub θ)->I s->
 seqS step s as bs=some (.ok s')-> ∀θ,Sol D M θ s'->Sol D M θ s/\as.map (Tm.sub θ)=bs.map (Tm.sub θ):=by
 intro as
 induction as with
 |nil=>
  intro bs s s' hl _ _ e θ hθ
  cases bs with
  |nil=>simp [seqS] at e;subst e;exact ⟨hθ,rfl⟩
  |cons b bs=>cases hl
 |cons a as ih=>
  intro bs s s' hl h hs e θ hθ
  cases bs with
  |nil=>cases hl
  |cons b bs=>
   rw [seqS] at e
   cases h1:step s a b with
   |none=>rw [h1] at e;cases e
   |some r=>
    rw [h1] at e
    cases r with
    |silent=>cases e
    |fail=>cases e
    |ok s1=>
     dsimp only at e;obtain ⟨i1,k1⟩:=h 0 a b s s1 rfl rfl hs h1;obtain ⟨e1,e2⟩:=ih bs s1 s' (by simpa using hl) (fun i a b s s' ha hb=>h (i + 1) a b s s' (by simpa using ha) (by simpa using hb)) i1 e θ hθ;obtain ⟨e3,e4⟩:=k1 θ e1;exact ⟨e3,by simp [e4,e2]⟩
theorem nodes_sol (hM:Closed D M)(hB: ∀i,AllL (wM nd ar) (D i)){N:Nat}(ih:SolStep D M nd ar N)(s:St)(f:Lab)(as:List Tm)(g:Lab)(bs:List Tm)(s':St)
 (h:Fine D M nd ar (N + 1) s (.node f as) (.node g bs)) (e:(if f=g/\as.length=bs.length then seqS (fun s a b=>zI D N s a b .exact) s as bs else some .fail)=some (.ok s')) (θ:Nat->Tm) (hθ:Sol D M θ s'):
 Sol D M θ s/\(Tm.node f as).sub θ=(Tm.node g bs).sub θ:=by
 split at e
 ·rename_i h1
  obtain ⟨rfl,hl⟩:=h1;have:=seqS_sol (I:=fun s=>Inv M s/\yS (Fit nd ar) s) as bs s s' hl (fun i a b s1 s2 ha hb hs e1=>by
   have F:=h.kid hs.1 hs.2 ha hb;exact ⟨F.post hM hB e1,ih s1 a b s2 F e1⟩) ⟨h.inv,h.s⟩ e θ hθ
  exact ⟨this.1,by rw [Tm.sub_node,Tm.sub_node,this.2]⟩
 ·cases e
theorem match_sol (hM:Closed D M)(hB: ∀i,AllL (wM nd ar) (D i)){N:Nat}(ih:SolStep D M nd ar N)(s:St)(p:Nat)(g:Lab)(bs:List Tm)(s':St)
 (h:Fine D M nd ar (N + 1) s (.var p) (.node g bs)) (e:zX N (zI D N) s (s.j p) (.node g bs) .exact=some (.ok s')) (θ:Nat->Tm) (hθ:Sol D M θ s'):Sol D M θ s/\(Tm.var p).sub θ=(Tm.node g bs).sub θ:=by
 have ht:Tm.node g bs∈M.vals (M.cls p):=h.ok 1;have hp:Tall D M p:=by obtain ⟨a,b,_,ha,_⟩:=h.ht;exact ⟨a,ha⟩
 rw [Tm.sub_var];unfold zX at e
 cases hv:s.v (s.j p) with
 |none=>
  rw [hv] at e;dsimp only at e
  split at e
  ·cases e
   exact hθ.of_putAt hv hp
  ·cases e
 |some u=>
  rw [hv] at e;dsimp only at e;obtain ⟨F,hj⟩:=h.value hM ht hv
  cases h1:zI D N s u (.node g bs) .exact with
  |none=>rw [h1] at e;cases e
  |some r1=>
   rw [h1] at e
   cases r1 with
   |silent=>cases e
   |fail=>cases e
   |ok s1=>
    dsimp only at e;rw [if_neg (by simp),if_pos (.inl rfl)] at e;cases e
    obtain ⟨k1,k2⟩:=ih s u _ s' F h1 θ hθ;exact ⟨k1,by rw [<-k2];exact (k1 p hp).2 u hv⟩
theorem vars_sol (hM:Closed D M){N:Nat}(ih:SolStep D M nd ar N)(s:St)(p q:Nat)(s':St)
 (h:Fine D M nd ar (N + 1) s (.var p) (.var q)) (e:yU N (zI D N) s (s.j p) (s.j q) .exact=some (.ok s')) (θ:Nat->Tm) (hθ:Sol D M θ s'):Sol D M θ s/\(Tm.var p).sub θ=(Tm.var q).sub θ:=by
 have hc:M.cls p=M.cls q:=h.ok 1;obtain ⟨a,b,hab,ha,hb⟩:=h.ht;have tp:Tall D M p:=⟨a,ha⟩;have tq:Tall D M q:=⟨b,hb⟩;obtain ⟨a',ea,ha'⟩:=ha.of_var;obtain ⟨b',eb,hb'⟩:=hb.of_var;rw [Tm.sub_var,Tm.sub_var];unfold yU at e;by_cases hj:s.j p=s.j q
 ·rw [if_pos hj] at e
  cases e
  exact ⟨hθ,by rw [(hθ p tp).1,(hθ q tq).1,hj]⟩
 ·rw [if_neg hj] at e
  cases hp:s.v (s.j p) with
  |none=>
   cases hq:s.v (s.j q) with
   |none=>rw [hp,hq] at e;cases e;exact hθ.of_join h.inv (.inl hp) tp tq
   |some u=>
    rw [hp,hq] at e;dsimp only at e
    split at e
    ·cases e;exact hθ.of_join h.inv (.inl hp) tp tq
    ·cases e
  |some u=>
   cases hq:s.v (s.j q) with
   |none=>
    rw [hp,hq] at e;dsimp only at e
    split at e
    ·cases e;exact hθ.of_join h.inv (.inr hq) tp tq
    ·cases e
   |some v=>
    rw [hp,hq] at e;dsimp only at e;have hu:=h.inv.val p u hp;have hv:=h.inv.val q v hq;have F:Fine D M nd ar N s u v:=⟨⟨a',b',by omega,ha' u hu,hb' v hv⟩,hM.vals _ _ _ hu (hc ▸ hv),h.inv,h.s _ _ hp,h.s _ _ hq,h.s⟩;obtain ⟨k1,k2⟩:=ih s u v s' F e θ hθ;exact ⟨k1,by rw [(k1 p tp).2 u hp,(k1 q tq).2 v hq,k2]⟩
theorem sol (hM:Closed D M)(hB: ∀i,AllL (wM nd ar) (D i)): ∀N,SolStep D M nd ar N:=by
 intro N
 induction N with
 |zero=>intro s x y s' _ e;cases e
 |succ N ih=>
  intro s x y s' h e θ hθ
  cases x with
  |var p=>
   cases y with
   |var q=>rw [zI] at e;exact vars_sol hM ih s p q s' h e θ hθ
   |node g bs=>rw [zI] at e;exact match_sol hM hB ih s p g bs s' h e θ hθ
  |node f as=>
   cases y with
   |var q=>
    rw [zI] at e;have:=match_sol hM hB ih s q f as s' h.symm e θ hθ;exact ⟨this.1,this.2.symm⟩
   |node g bs=>
    rw [zI,yF] at e;rw [if_neg (by simp),if_neg (by simp),if_neg (by simp),if_neg (by simp),if_neg (by simp)] at e;exact nodes_sol hM hB ih s f as g bs s' h e θ hθ
def simS:Nat->St->Tm->Option Tm
 |0,_,_=>none
 |N + 1,s,.var q=>match s.v (s.j q) with
  |some k=>simS N s k
  |none=>some (.var (s.j q))
 |N + 1,s,.node f ts=>(ts.mapM (simS N s)).map (.node f)
def simF (N:Nat)(s:St)(t:Tm):Tm:=(simS N s t).getD (.var 0)
theorem simF_of {N:Nat}{s:St}{t u:Tm}(h:simS N s t=some u):simF N s t=u:=by unfold simF;rw [h];rfl
theorem mapM_some {g:Tm->Option Tm}: ∀ {ts us:List Tm},ts.mapM g=some us->us=ts.map (fun t=>(g t).getD (.var 0))/\ ∀t∈ts,(g t).isSome=true:=by
 intro ts
 induction ts with
 |nil=>intro us h;simp at h;subst h;exact ⟨rfl,fun t h=>by cases h⟩
 |cons t ts ih=>
  intro us h;rw [List.mapM_cons] at h
  cases hg:g t with
  |none=>rw [hg] at h;cases h
  |some u=>
   rw [hg] at h
   cases hm:ts.mapM g with
   |none=>rw [hm] at h;cases h
   |some vs=>
    rw [hm] at h;cases h
    obtain ⟨e,k⟩:=ih hm;refine ⟨by rw [List.map_cons,hg,e];rfl,fun a ha=> ?_⟩;rcases List.mem_cons.1 ha with rfl | ha
    ·rw [hg];rfl
    ·exact k a ha
theorem simS_node {N:Nat}{s:St}{f:Lab}{ts:List Tm}{u:Tm}(h:simS (N + 1) s (.node f ts)=some u):u= .node f (ts.map (simF N s))/\ ∀t∈ts,simS N s t=some (simF N s t):=by
 rw [simS] at h
 cases hm:ts.mapM (simS N s) with
 |none=>rw [hm] at h;cases h
 |some us=>
  rw [hm] at h;cases h
  obtain ⟨e,k⟩:=mapM_some hm;refine ⟨by rw [e];rfl,fun t ht=> ?_⟩;have:=k t ht;unfold simF
  cases h1:simS N s t with
  |none=>rw [h1] at this;cases this
  |some v=>rfl
def argS (N:Nat)(s:St)(p:Nat):Tm:=match s.v (s.j p) with | some k=>simF N s k | none=> .var (s.j p)
theorem mapM_of {g:Tm->Option Tm}{h:Tm->Tm}: ∀ {ts:List Tm},(∀t∈ts,g t=some (h t))->ts.mapM g=some (ts.map h):=by
 intro ts
 induction ts with
 |nil=>intro _;simp
 |cons t ts ih=>
  intro hh;rw [List.mapM_cons,hh t (by simp),ih (fun t ht=>hh t (by simp [ht]))];rfl
theorem simS_mk {N:Nat}{s:St}{f:Lab}{ts:List Tm}(h: ∀t∈ts,simS N s t=some (simF N s t)):simS (N + 1) s (.node f ts)=some (.node f (ts.map (simF N s))):=by
 rw [simS,mapM_of h];rfl
theorem simS_ends {s:St}(hs:Inv M s): ∀(n:Nat)(t:Tm),Ht D M n t-> ∀N,n<=N-> ∃u,simS N s t=some u:=by
 intro n
 induction n with
 |zero=>intro t h;exact absurd h.pos (by omega)
 |succ n ih=>
  intro t h N hN;obtain ⟨N,rfl⟩: ∃N',N=N' + 1:=⟨N - 1,by omega⟩
  cases t with
  |var p=>
   obtain ⟨n',e,h'⟩:=h.of_var;rw [simS]
   cases hv:s.v (s.j p) with
   |none=>exact ⟨_,rfl⟩
   |some k=>exact ih k (by have:=h' k (hs.val p k hv);rwa [show n'=n by omega] at this) N (by omega)
  |node f ts=>
   refine ⟨_,simS_mk fun t ht=> ?_⟩;obtain ⟨n',hl,h'⟩:=h.kid ht;obtain ⟨u,hu⟩:=ih t (h'.mono (by omega)) N (by omega);rw [hu,simF_of hu]
theorem simS_mono {s:St}: ∀(N:Nat)(t u:Tm),simS N s t=some u-> ∀N',N<=N'->simS N' s t=some u:=by
 intro N
 induction N with
 |zero=>intro t u h;cases h
 |succ N ih=>
  intro t u h N' hN;obtain ⟨N',rfl⟩: ∃N'',N'=N'' + 1:=⟨N' - 1,by omega⟩
  cases t with
  |var p=>
   rw [simS] at h ⊢
   cases hv:s.v (s.j p) with
   |none=>rw [hv] at h;exact h
   |some k=>rw [hv] at h;exact ih k u h N' (by omega)
  |node f ts=>
   obtain ⟨rfl,k⟩:=simS_node h;have hh: ∀t∈ts,simS N' s t=some (simF N s t):=fun t ht=>ih t _ (k t ht) N' (by omega)
   rw [simS,mapM_of hh];rfl
open Classical in
noncomputable def full (s:St)(p:Nat):Tm:=if h: ∃N u,simS N s (.var p)=some u then Classical.choose (Classical.choose_spec h) else .var p
theorem full_of {s:St}{p N:Nat}{u:Tm}(h:simS N s (.var p)=some u):full s p=u:=by
 have hex: ∃N u,simS N s (.var p)=some u:=⟨N,u,h⟩;unfold full;rw [dif_pos hex];have h2:=Classical.choose_spec (Classical.choose_spec hex);have a:=simS_mono _ _ _ h (max N (Classical.choose hex)) (by omega);have b:=simS_mono _ _ _ h2 (max N (Classical.choose hex)) (by omega);rw [a] at b;exact (Option.some.inj b).symm
theorem sub_full {s:St}: ∀(N:Nat)(t u:Tm),simS N s t=some u->t.sub (full s)=u:=by
 intro N
 induction N with
 |zero=>intro t u h;cases h
 |succ N ih=>
  intro t u h
  cases t with
  |var p=>rw [Tm.sub_var];exact full_of h
  |node f ts=>
   obtain ⟨rfl,k⟩:=simS_node h;rw [Tm.sub_node]
   congr 1
   exact List.map_congr_left fun t ht=>ih t _ (k t ht)
theorem full_sol {s:St}(hs:Inv M s):Sol D M (full s) s:=by
 intro p hp;obtain ⟨n,hn⟩:=hp;obtain ⟨u,hu⟩:=simS_ends hs n _ hn n (Nat.le_refl _);obtain ⟨N,rfl⟩: ∃N,n=N + 1:=⟨n - 1,by have:=hn.pos;omega⟩;have hj:simS (N + 1) s (.var (s.j p))=some u:=by
  rw [simS] at hu ⊢;rw [hs.idem p];exact hu
 refine ⟨by rw [full_of hu,full_of hj],fun t ht=> ?_⟩;rw [simS,ht] at hu;rw [full_of (N:=N + 1) (u:=u) (by rw [simS,ht];exact hu),sub_full N t u hu]
theorem Live.init:Live D M St.init:=fun p t h=>by simp [St.init] at h
theorem Live.putAt {s:St}(h:Live D M s)(hs:Inv M s){p:Nat}(hp:Tall D M p)(t:Tm):Live D M (s.putAt (s.j p) t):=by
 intro q u hu;simp only [St.putAt] at hu
 split at hu
 ·rename_i h1
  exact hp.cls (by rw [<-hs.cls p,<-h1,hs.cls q])
 ·exact h q u hu
theorem Live.join {s:St}(h:Live D M s)(hs:Inv M s){p q:Nat}(hp:Tall D M p)(hc:M.cls p=M.cls q):Live D M (s.join (s.j p) (s.j q)):=by
 intro i u hu;simp only [St.join] at hu;by_cases h1:s.j i=s.j p\/s.j i=s.j q
 ·rcases h1 with h1 | h1
  ·exact hp.cls (by rw [<-hs.cls p,<-h1,hs.cls i])
  ·exact hp.cls (by rw [hc,<-hs.cls q,<-h1,hs.cls i])
 ·rw [if_neg h1,if_neg] at hu
  ·exact h i u hu
  ·intro h3
   apply h1;rcases Nat.le_total (s.j p) (s.j q) with hl | hl
   ·rw [Nat.min_eq_left hl] at h3;exact .inl h3
   ·rw [Nat.min_eq_right hl] at h3;exact .inr h3
end
end Uni
end
section
namespace Uni
section
variable {D:zE}{M:Mg}{nd:Nat}{ar:Nat->Nat}
def LiveStep (D:zE)(M:Mg)(nd:Nat)(ar:Nat->Nat)(N:Nat):Prop:=
 ∀s x y m s',Fine D M nd ar N s x y->Live D M s->zI D N s x y m=some (.ok s')->Live D M s'
theorem seqS_live {I:St->Prop}{step:St->Tm->Tm->Option Res}: ∀(as bs:List Tm)(s s':St),
 (∀(i:Nat) (a b:Tm) (s s':St),as[i]?=some a->bs[i]?=some b->I s->step s a b=some (.ok s')->I s')->I s->
 seqS step s as bs=some (.ok s')->I s':=by
 intro as
 induction as with
 |nil=>intro bs s s' _ hs e;simp [seqS] at e;subst e;exact hs
 |cons a as ih=>
  intro bs s s' h hs e
  cases bs with
  |nil=>simp [seqS] at e;subst e;exact hs
  |cons b bs=>
   rw [seqS] at e
   cases h1:step s a b with
   |none=>rw [h1] at e;cases e
   |some r=>
    rw [h1] at e
    cases r with
    |silent=>cases e
    |fail=>cases e
    |ok s1=>exact ih bs s1 s' (fun i a b s s' ha hb=>h (i + 1) a b s s' (by simpa using ha) (by simpa using hb)) (h 0 a b s s1 rfl rfl hs h1) e
theorem match_live (hM:Closed D M){N:Nat}(ih:LiveStep D M nd ar N)(hB: ∀i,AllL (wM nd ar) (D i))(s:St)(p:Nat)(g:Lab)(bs:List Tm)(m:Mode)(s':St)
 (h:Fine D M nd ar (N + 1) s (.var p) (.node g bs)) (hl:Live D M s) (e:zX N (zI D N) s (s.j p) (.node g bs) m=some (.ok s')):Live D M s':=by
 have ht:Tm.node g bs∈M.vals (M.cls p):=h.ok 1;have hp:Tall D M p:=by obtain ⟨a,b,_,ha,_⟩:=h.ht;exact ⟨a,ha⟩
 unfold zX at e
 cases hv:s.v (s.j p) with
 |none=>
  rw [hv] at e;dsimp only at e
  split at e
  ·cases e
   exact hl.putAt h.inv hp _
  ·cases e
 |some u=>
  rw [hv] at e;dsimp only at e;obtain ⟨F,hj⟩:=h.value hM ht hv
  cases h1:zI D N s u (.node g bs) m with
  |none=>rw [h1] at e;cases e
  |some r1=>
   rw [h1] at e
   cases r1 with
   |silent=>cases e
   |fail=>cases e
   |ok s1=>
    dsimp only at e;have l1:=ih s u _ m s1 F hl h1;have i1:=(F.post hM hB h1).1
    split at e
    ·cases e
    split at e
    ·cases e;exact l1
    split at e
    ·cases e;rw [<-hj m s1 h1];exact l1.putAt i1 hp _
    ·cases e
theorem live (hM:Closed D M)(hB: ∀i,AllL (wM nd ar) (D i)): ∀N,LiveStep D M nd ar N:=by
 intro N
 induction N with
 |zero=>intro s x y m s' _ _ e;cases e
 |succ N ih=>
  intro s x y m s' h hl e
  cases x with
  |var p=>
   cases y with
   |var q=>
    rw [zI] at e;have hc:M.cls p=M.cls q:=h.ok 1;obtain ⟨a,b,hab,ha,hb⟩:=h.ht;obtain ⟨a',ea,ha'⟩:=ha.of_var;obtain ⟨b',eb,hb'⟩:=hb.of_var;unfold yU at e
    split at e
    ·cases e;exact hl
    have jn:=hl.join h.inv ⟨a,ha⟩ hc
    cases hp:s.v (s.j p) with
    |none=>
     cases hq:s.v (s.j q) with
     |none=>rw [hp,hq] at e;cases e;exact jn
     |some u=>
      rw [hp,hq] at e;dsimp only at e
      split at e
      ·cases e;exact jn
      ·cases e
    |some u=>
     cases hq:s.v (s.j q) with
     |none=>
      rw [hp,hq] at e;dsimp only at e
      split at e
      ·cases e;exact jn
      ·cases e
     |some v=>
      rw [hp,hq] at e;dsimp only at e;have hu:=h.inv.val p u hp;have hv:=h.inv.val q v hq;exact ih s u v m s' ⟨⟨a',b',by omega,ha' u hu,hb' v hv⟩,hM.vals _ _ _ hu (hc ▸ hv),h.inv,h.s _ _ hp,h.s _ _ hq,h.s⟩ hl e
   |node g bs=>rw [zI] at e;exact match_live hM ih hB s p g bs m s' h hl e
  |node f as=>
   cases y with
   |var q=>rw [zI] at e;exact match_live hM ih hB s q f as m s' h.symm hl e
   |node g bs=>
    rw [zI,yF] at e
    split at e
    ·cases e
    split at e
    ·rename_i h1;exact ih s _ _ _ s' (h.und hB h1.2.1 h1.2.2) hl e
    split at e
    ·rename_i h1;exact ih s _ _ _ s' (h.symm.und hB h1.2.1 h1.2.2).symm hl e
    split at e
    ·cases e
    split at e
    ·cases e
    split at e
    ·exact (seqS_live (I:=fun s=>(Inv M s/\yS (Fit nd ar) s)/\Live D M s) as bs s s' (fun i a b s1 s2 ha hb hs e1=>by
      have F:=h.kid hs.1.1 hs.1.2 ha hb;exact ⟨F.post hM hB e1,ih s1 a b _ s2 F hs.2 e1⟩) ⟨⟨h.inv,h.s⟩,hl⟩ e).2
    ·cases e
theorem keepv (hM:Closed D M): ∀N a b s x y m s',a + b < N->xL D M x y->Ht D M a x->Ht D M b y->Inv M s->zI D N s x y m=some (.ok s')-> ∀q,¬Ht D M (max a b) (.var q)->s'.v (s'.j q)=s.v (s.j q):=by
 intro N
 induction N with
 |zero=>intro a b s x y m s' h;omega
 |succ N ih=>
  have mt: ∀a b s p t m s',a + b < N + 1->t∈M.vals (M.cls p)->Ht D M a (.var p)->Ht D M b t->Inv M s->zX N (zI D N) s (s.j p) t m=some (.ok s')-> ∀q,¬Ht D M a (.var q)->s'.v (s'.j q)=s.v (s.j q):=by
   intro a b s p t m s' hab ht ha hb hs e q hq;have other: ∀s1:St,Inv M s1->s1.j q≠s1.j p:=fun s1 i1 h1=>hq (ha.cls (by rw [<-i1.cls p,<-h1,i1.cls q]))
   unfold zX at e
   cases hv:s.v (s.j p) with
   |none=>
    rw [hv] at e;dsimp only at e
    split at e
    ·cases e
     simp only [St.putAt];rw [if_neg (other s hs)]
    ·cases e
   |some u=>
    rw [hv] at e;dsimp only at e;have hu:u∈M.vals (M.cls p):=hs.val p u hv;obtain ⟨a0,h0,hvs,hno⟩:=below ha
    cases h1:zI D N s u t m with
    |none=>rw [h1] at e;cases e
    |some r1=>
     rw [h1] at e
     cases r1 with
     |silent=>cases e
     |fail=>cases e
     |ok s1=>
      dsimp only at e;have hok:=hM.vals _ _ _ hu ht;have K:=ih a0 (min b a0) s u t m s1 (by omega) hok (hvs u hu) (hb.min (hvs t ht)) hs h1 q (fun h=>hq (h.mono (by omega)));obtain ⟨r,hr,hr'⟩:=wQ hM N a0 (min b a0) s u t m (by omega) hok (hvs u hu) (hb.min (hvs t ht)) hs;rw [h1] at hr;cases hr;obtain ⟨i1,k1⟩:=hr' s1 rfl;rw [show max a0 (min b a0)=a0 by omega] at k1
      split at e
      ·cases e
      split at e
      ·cases e;exact K
      split at e
      ·cases e
       simp only [St.putAt];rw [if_neg]
       ·exact K
       ·rw [<-k1 p hno];exact other s1 i1
      ·cases e
  intro a b s x y m s' hab hok ha hb hs e q hq
  cases x with
  |var p=>
   cases y with
   |var p'=>
    rw [zI] at e;have hc:M.cls p=M.cls p':=hok 1;obtain ⟨a',ea,ha'⟩:=ha.of_var;obtain ⟨b',eb,hb'⟩:=hb.of_var;have o1:s.j q≠s.j p:=fun h1=>hq ((ha.cls (by rw [<-hs.cls p,<-h1,hs.cls q])).mono (by omega))
    have o2:s.j q≠s.j p':=fun h1=>hq ((hb.cls (by rw [<-hs.cls p',<-h1,hs.cls q])).mono (by omega))
    have jn:(s.join (s.j p) (s.j p')).v ((s.join (s.j p) (s.j p')).j q)=s.v (s.j q):=by
     have e1:(s.join (s.j p) (s.j p')).j q=s.j q:=by
      show (if s.j q=s.j p\/s.j q=s.j p' then _ else _)=_;rw [if_neg (by rintro (h | h);exact o1 h;exact o2 h)]
     rw [e1];show (if s.j q=min (s.j p) (s.j p') then _ else _)=_;rw [if_neg];rcases Nat.le_total (s.j p) (s.j p') with hl | hl
     ·rw [Nat.min_eq_left hl];exact o1
     ·rw [Nat.min_eq_right hl];exact o2
    unfold yU at e
    split at e
    ·cases e;rfl
    cases hp:s.v (s.j p) with
    |none=>
     cases hq':s.v (s.j p') with
     |none=>rw [hp,hq'] at e;cases e;exact jn
     |some u=>
      rw [hp,hq'] at e;dsimp only at e
      split at e
      ·cases e;exact jn
      ·cases e
    |some u=>
     cases hq':s.v (s.j p') with
     |none=>
      rw [hp,hq'] at e;dsimp only at e
      split at e
      ·cases e;exact jn
      ·cases e
     |some v=>
      rw [hp,hq'] at e;dsimp only at e;have hu:=hs.val p u hp;have hv:=hs.val p' v hq';exact ih a' b' s u v m s' (by omega) (hM.vals _ _ _ hu (hc ▸ hv)) (ha' u hu) (hb' v hv) hs e q (fun h=>hq (h.mono (by omega)))
   |node g bs=>rw [zI] at e;exact mt a b s p _ m s' hab (hok 1) ha hb hs e q (fun h=>hq (h.mono (by omega)))
  |node f as=>
   cases y with
   |var p'=>rw [zI] at e;exact mt b a s p' _ m s' (by omega) (hok 1) hb ha hs e q (fun h=>hq (h.mono (by omega)))
   |node g bs=>
    rw [zI,yF] at e
    split at e
    ·cases e
    split at e
    ·rename_i h1
     obtain ⟨a',hlt,ha'⟩:=ha.und h1.2.1;exact ih a' b s _ _ _ s' (by omega) (fun k=>(hok (k + 1)).1 h1.2.1 h1.2.2) ha' hb hs e q (fun h=>hq (h.mono (by omega)))
    split at e
    ·rename_i h1
     obtain ⟨b',hlt,hb'⟩:=hb.und h1.2.1;exact ih a b' s _ _ _ s' (by omega) (fun k=>(hok (k + 1)).2.1 h1.2.1 h1.2.2) ha hb' hs e q (fun h=>hq (h.mono (by omega)))
    split at e
    ·cases e
    split at e
    ·cases e
    split at e
    ·exact (seqS_live (I:=fun s1=>Inv M s1/\s1.v (s1.j q)=s.v (s.j q)) as bs s s' (fun i x y s1 s2 hx hy h1 e1=>by
      obtain ⟨a',hl,ha'⟩:=ha.kid (List.mem_of_getElem? hx);obtain ⟨b',hl',hb'⟩:=hb.kid (List.mem_of_getElem? hy);have hok':xL D M x y:=fun k=>(hok (k + 1)).2.2 i x y hx hy
      obtain ⟨r,hr,hr'⟩:=wQ hM N a' b' s1 x y (inner m) (by omega) hok' ha' hb' h1.1;rw [e1] at hr;cases hr;exact ⟨(hr' s2 rfl).1,(ih a' b' s1 x y _ s2 (by omega) hok' ha' hb' h1.1 e1 q (fun h=>hq (h.mono (by omega)))).trans h1.2⟩) ⟨hs,rfl⟩ e).2
    ·cases e
theorem Fine.valueV (hM:Closed D M){N:Nat}{s:St}{p:Nat}{t k:Tm}(h:Fine D M nd ar (N + 1) s (.var p) t)(ht:t∈M.vals (M.cls p))(hv:s.v (s.j p)=some k){m:Mode}{s':St}(e:zI D N s k t m=some (.ok s')):s'.v (s'.j p)=some k:=by
 obtain ⟨a,b,hab,ha,hb⟩:=h.ht;obtain ⟨a0,h0,hA,hno⟩:=below ha;have hk:=h.inv.val p k hv;rw [<-hv];exact keepv hM N a0 (min b a0) s k t m s' (by omega) (hM.vals _ _ _ hk ht) (hA k hk) (hb.min (hA t ht)) h.inv e p (by rw [show max a0 (min b a0)=a0 by omega];exact hno)
def Near (D:zE)(M:Mg)(nd:Nat)(ar:Nat->Nat)(s s':St):Prop:=
 s'=s\/ ∃p k t,s.v (s.j p)=some k/\s'=s.putAt (s.j p) t/\Tall D M p/\k∈M.vals (M.cls p)/\t∈M.vals (M.cls p)/\Fit nd ar t/\ ∀θ,Sol D M θ s->k.sub θ=t.sub θ
theorem Near.refl (s:St):Near D M nd ar s s:= .inl rfl
def AgreeN (D:zE)(M:Mg)(nd:Nat)(ar:Nat->Nat):Res->Option St->Prop:=AgreeR (Near D M nd ar)
theorem yM.near {r:Res}{q:Option St}(h:yM r q):AgreeN D M nd ar r q:=by
 cases r with
 |silent=>trivial
 |fail=>exact h
 |ok s=>obtain ⟨s',h1,rfl⟩:=h;exact ⟨s,h1,.refl s⟩
theorem match_assign (hD:zZ D)(hM:Closed D M)(hB: ∀i,AllL (wM nd ar) (D i)){N:Nat}(k:Nat)(s:St)(p:Nat)(g:Lab)(bs:List Tm)
 (h:Fine D M nd ar (N + 1) s (.var p) (.node g bs)) (r:Res) (e:zX N (zI D N) s (s.j p) (.node g bs) .assign=some r):
 ∀q,yB (zJ D k) s p (.node g bs) .assign=some q->AgreeN D M nd ar r q:=by
 intro q e';have ht:Tm.node g bs∈M.vals (M.cls p):=h.ok 1;have hp:Tall D M p:=by obtain ⟨a,b,_,ha,_⟩:=h.ht;exact ⟨a,ha⟩
 unfold zX at e;unfold yB St.get at e'
 cases hv:s.v (s.j p) with
 |none=>
  rw [hv] at e e';dsimp only at e e'
  split at e
  ·cases e;cases e';exact yM.near .ok_
  ·cases e
 |some u=>
  rw [hv] at e e';dsimp only at e e';obtain ⟨F,hj⟩:=h.value hM ht hv;obtain ⟨fu,us,rfl⟩:=hM.nodes _ _ (h.inv.val p u hv)
  cases N with
  |zero=>cases e
  |succ N=>
  cases h1:zI D (N + 1) s (.node fu us) (.node g bs) .assign with
  |none=>rw [h1] at e;cases e
  |some r1=>
   have h1':=h1;rw [h1] at e;rw [zI] at h1'
   cases h2:zJ D k s (.node fu us) (.node g bs) .assign with
   |none=>rw [h2] at e';cases e'
   |some q1=>
    have A:=(nodes_sim hD hM hB (fun N' _=>sim hD hM hB N') k s fu us g bs .assign F r1 h1').1 q1 h2;rw [h2] at e'
    cases r1 with
    |silent=>cases e;trivial
    |fail=>
     have:q1=none:=A;subst this;cases e;cases e';rfl
    |ok s1=>
     have:=A.get;subst this;dsimp only at e e';have hn: ∀(f:Lab) (as:List Tm),xR (.node f as)=true↔f.kind=1:=fun f as=>by simp [xR,isVar,Tm.kind]
     rw [if_neg (by simp)] at e;by_cases hg:g.kind=1
     ·rw [if_neg (by simp [Tm.kind,hg])] at e
      split at e
      ·cases e
       by_cases hu:fu.kind=1
       ·rw [if_pos (.inr ((hn fu us).2 hu))] at e'
        cases e'
        have he:Tm.node fu us= .node g bs:=by
         unfold yF at h1'
         split at h1'
         ·cases h1'
         rw [if_neg (by omega),if_neg (by omega),if_neg (by omega)] at h1'
         split at h1'
         ·cases h1'
         rename_i n5
         split at h1'
         ·rename_i h6
          exact Classical.byContradiction fun hne=>n5 ⟨rfl,hu,hg,by rw [h6.1],hne⟩
         ·cases h1'
        rw [he] at h1 hv;cases unifyS_refl D (N + 1) s _ _ _ h1
        rw [putAt_self s _ _ hv];exact yM.near .ok_
       ·rw [if_neg (by simp [hn,hu]),if_pos (.inl ((hn g bs).2 hg))] at e'
        cases e';rw [hj _ _ h1];exact yM.near .ok_
      ·cases e
     ·rw [if_pos (.inr hg)] at e
      cases e
      by_cases hu:fu.kind=1
      ·rw [if_pos (.inr ((hn fu us).2 hu))] at e'
       cases e';exact yM.near .ok_
      ·rw [if_neg (by simp [hn,hu])] at e'
       split at e'
       ·cases e'
        unfold yF at h1'
        split at h1'
        ·cases h1'
        rw [if_neg (by omega),if_neg (by omega)] at h1'
        split at h1'
        ·cases h1'
        rw [if_neg (by omega)] at h1';refine ⟨_,rfl,.inr ⟨p,_,_,h.valueV hM ht hv h1,rfl,hp,h.inv.val p _ hv,ht,h.y,fun θ hθ=>(nodes_sol hM hB (sol hM hB N) s fu us g bs s1 F h1' θ hθ).2⟩⟩
       ·cases e';exact yM.near .ok_
theorem sim_assign (hD:zZ D)(hM:Closed D M)(hB: ∀i,AllL (wM nd ar) (D i))(N k:Nat)(s:St)(x y:Tm)(h:Fine D M nd ar N s x y)(r:Res)(e:zI D N s x y .assign=some r):
 (∀q,zJ D k s x y .assign=some q->AgreeN D M nd ar r q)/\(∀q,zJ D k s y x .assign=some q->AgreeN D M nd ar r q):=by
 cases N with
 |zero=>cases e
 |succ N=>
 cases k with
 |zero=>exact ⟨(fun q e=>by cases e),(fun q e=>by cases e)⟩
 |succ k=>
  have NS:=fun (N':Nat) (k:Nat) (s:St) (f:Lab) (as:List Tm) (g:Lab) (bs:List Tm) (r:Res) (h:Fine D M nd ar (N' + 1) s (.node f as) (.node g bs)) (e:yF D (zI D N') s f as g bs .assign=some r)=>
   nodes_sim hD hM hB (fun N'' _=>sim hD hM hB N'') k s f as g bs .assign h r e
  cases x with
  |var p=>
   cases y with
   |var q=>
    rw [zI] at e;rw [zJ,zJ];have hc:M.cls p=M.cls q:=h.ok 1;obtain ⟨a,b,hab,ha,hb⟩:=h.ht;obtain ⟨a',ea,ha'⟩:=ha.of_var;obtain ⟨b',eb,hb'⟩:=hb.of_var;unfold yU at e;unfold yW St.get;by_cases hj:s.j p=s.j q
    ·rw [if_pos hj] at e
     cases e
     rw [if_pos hj,if_pos hj.symm];exact ⟨fun o e=>by cases e;exact yM.near .ok_,fun o e=>by cases e;exact yM.near .ok_⟩
    ·rw [if_neg hj] at e
     rw [if_neg hj,if_neg (Ne.symm hj)]
     cases hp:s.v (s.j p) with
     |none=>
      have jc:=join_comm s (s.j p) (s.j q) (.inl hp);have hr:r= .ok (s.join (s.j p) (s.j q)):=by
       cases hq:s.v (s.j q) with
       |none=>rw [hp,hq] at e;cases e;rfl
       |some u=>
        rw [hp,hq] at e;dsimp only at e
        split at e
        ·cases e;rfl
        ·cases e
      subst hr
      cases hq:s.v (s.j q) with
      |none=>exact ⟨fun o e=>by cases e;rw [<-jc];exact yM.near .ok_,fun o e=>by cases e;exact yM.near .ok_⟩
      |some u=>exact ⟨fun o e=>by cases e;rw [<-jc];exact yM.near .ok_,fun o e=>by cases e;exact yM.near .ok_⟩
     |some u=>
      cases hq:s.v (s.j q) with
      |none=>
       have jc:=join_comm s (s.j p) (s.j q) (.inr hq);rw [hp,hq] at e;dsimp only at e
       split at e
       ·cases e
        exact ⟨fun o e=>by cases e;rw [<-jc];exact yM.near .ok_,fun o e=>by cases e;exact yM.near .ok_⟩
       ·cases e
      |some v=>
       rw [hp,hq] at e;dsimp only at e ⊢;have hu:=h.inv.val p u hp;have hv:=h.inv.val q v hq;have F:Fine D M nd ar N s u v:=⟨⟨a',b',by omega,ha' u hu,hb' v hv⟩,hM.vals _ _ _ hu (hc ▸ hv),h.inv,h.s _ _ hp,h.s _ _ hq,h.s⟩;obtain ⟨fu,us,rfl⟩:=hM.nodes _ _ hu;obtain ⟨fv,vs,rfl⟩:=hM.nodes _ _ hv
       cases N with
       |zero=>cases e
       |succ N=>
        rw [zI] at e;have A:=NS N k s fu us fv vs r F e;exact ⟨fun o e=>(A.2 o e).near,fun o e=>(A.1 o e).near⟩
   |node g bs=>
    rw [zI] at e;rw [zJ,zJ];have:=match_assign hD hM hB k s p g bs h r e;exact ⟨this,this⟩
  |node f as=>
   cases y with
   |var q=>
    rw [zI] at e;rw [zJ,zJ];have:=match_assign hD hM hB k s q f as h.symm r e;exact ⟨this,this⟩
   |node g bs=>
    rw [zI] at e;have A:=NS N (k + 1) s f as g bs r h e;exact ⟨fun o e=>(A.1 o e).near,fun o e=>(A.2 o e).near⟩
end
end Uni
end
section
namespace Uni
section
variable {D:zE}{M:Mg}{nd:Nat}{ar:Nat->Nat}
def Looser (m m':Mode):Prop:=m= .exact\/(m= .assign/\m'≠ .exact)\/m=m'
theorem Looser.inner {m m':Mode}(h:Looser m m'):Looser (inner m) (inner m'):=by
 revert h;cases m <;>cases m' <;>simp [Looser,Uni.inner]
def ModeStep (D:zE)(M:Mg)(nd:Nat)(ar:Nat->Nat)(N:Nat):Prop:=
 ∀s x y m m' s' r,Looser m m'->Fine D M nd ar N s x y->zI D N s x y m=some (.ok s')->zI D N s x y m'=some r->r≠ .silent->r= .ok s'
theorem seqS_modes {I:St->Prop}{e l:St->Tm->Tm->Option Res}: ∀(as bs:List Tm)(s s':St)(r:Res),
 (∀(i:Nat) (a b:Tm) (s s':St),as[i]?=some a->bs[i]?=some b->I s->e s a b=some (.ok s')->I s'/\ ∀r,l s a b=some r->r≠ .silent->r= .ok s')->I s->
 seqS e s as bs=some (.ok s')->seqS l s as bs=some r->r≠ .silent->r= .ok s':=by
 intro as
 induction as with
 |nil=>intro bs s s' r _ hs h1 h2 _;simp [seqS] at h1 h2;subst h1 h2;rfl
 |cons a as ih=>
  intro bs s s' r h hs h1 h2 hr
  cases bs with
  |nil=>simp [seqS] at h1 h2;subst h1 h2;rfl
  |cons b bs=>
   rw [seqS] at h1 h2
   cases h3:e s a b with
   |none=>rw [h3] at h1;cases h1
   |some r1=>
    rw [h3] at h1
    cases r1 with
    |silent=>cases h1
    |fail=>cases h1
    |ok s1=>
     dsimp only at h1;obtain ⟨i1,k⟩:=h 0 a b s s1 rfl rfl hs h3
     cases h4:l s a b with
     |none=>rw [h4] at h2;cases h2
     |some r2=>
      rw [h4] at h2;have hns:r2≠ .silent:=by
       rintro rfl;dsimp only at h2;exact hr (Option.some.inj h2).symm
      have:=k r2 h4 hns;subst this;exact ih bs s1 s' r (fun i a b s s' ha hb=>h (i + 1) a b s s' (by simpa using ha) (by simpa using hb)) i1 h1 h2 hr
theorem match_modes (hM:Closed D M){N:Nat}(ih:ModeStep D M nd ar N)(s:St)(p:Nat)(g:Lab)(bs:List Tm)(m m':Mode)(s':St)(r:Res)(hmm:Looser m m')
 (h:Fine D M nd ar (N + 1) s (.var p) (.node g bs)) (e:zX N (zI D N) s (s.j p) (.node g bs) m=some (.ok s')) (e':zX N (zI D N) s (s.j p) (.node g bs) m'=some r) (hr:r≠ .silent):r= .ok s':=by
 have ht:Tm.node g bs∈M.vals (M.cls p):=h.ok 1;by_cases hsame:m=m'
 ·subst hsame;rw [e] at e';exact (Option.some.inj e').symm
 unfold zX at e e'
 cases hv:s.v (s.j p) with
 |none=>
  rw [hv] at e e';dsimp only at e e'
  split at e
  ·rename_i h1
   rw [if_pos h1] at e';rw [e] at e';exact (Option.some.inj e').symm
  ·cases e
 |some u=>
  rw [hv] at e e';dsimp only at e e';obtain ⟨F,hj⟩:=h.value hM ht hv;obtain ⟨fu,us,rfl⟩:=hM.nodes _ _ (h.inv.val p u hv)
  cases h1:zI D N s (.node fu us) (.node g bs) m with
  |none=>rw [h1] at e;cases e
  |some r1=>
   rw [h1] at e
   cases r1 with
   |silent=>cases e
   |fail=>cases e
   |ok s1=>
    dsimp only at e
    cases h2:zI D N s (.node fu us) (.node g bs) m' with
    |none=>rw [h2] at e';cases e'
    |some r2=>
     rw [h2] at e';have hns:r2≠ .silent:=by
      rintro rfl;dsimp only at e';exact hr (Option.some.inj e').symm
     have:=ih s _ _ m m' s1 r2 hmm F h1 h2 hns;subst this;dsimp only at e';have same:Tm.node fu us= .node g bs->s1=s/\s.putAt (s.j p) (.node g bs)=s:=fun he=>by
      rw [he] at h1 hv;exact ⟨by cases unifyS_refl D N s _ _ _ h1;rfl,putAt_self s _ _ hv⟩
     split at e
     ·cases e
     split at e'
     ·exact absurd (Option.some.inj e').symm hr
     rename_i nsil;by_cases hg:g.kind=1
     ·
      have he':(if xI N s1 (.node g bs) (s.j p)=some false then some (Res.ok (s1.putAt (s.j p) (.node g bs))) else none)=some r:=by
       rw [if_neg] at e'
       ·exact e'
       ·rintro (h3 | h3)
        ·subst h3
         rcases hmm with h4 | ⟨_,h4⟩ | h4
         ·exact hsame h4
         ·exact h4 rfl
         ·exact hsame h4
        ·exact h3 (by simp [Tm.kind,hg])
      clear e'
      split at e
      ·rename_i h3
       cases e
       have hme:m= .exact:=by
        rcases h3 with h3 | h3
        ·exact h3
        ·exact absurd (by simp [Tm.kind,hg]) h3
       subst hme;have heq:Tm.node fu us= .node g bs:=by
        have hfg:fu=g:=by
         cases N with
         |zero=>cases h1
         |succ N=>
          rw [zI,yF,if_neg (by simp),if_neg (by simp),if_neg (by simp),if_neg (by simp),if_neg (by simp)] at h1
          split at h1
          ·rename_i h5;exact h5.1
          ·cases h1
        cases m' with
        |exact=>exact absurd rfl hsame
        |loose=>
         refine Classical.byContradiction fun hne=>nsil ⟨rfl,?_,?_,hne⟩
         ·simp [Tm.kind,hfg]
         ·simp [Tm.kind,hg]
        |assign=>
         cases N with
         |zero=>cases h1
         |succ N=>
          rw [zI,yF] at h2;have hk:fu.kind=1:=by rw [hfg];exact hg
          split at h2
          ·cases h2
          rw [if_neg (by omega),if_neg (by omega),if_neg (by omega)] at h2
          split at h2
          ·cases h2
          rename_i n5;exact Classical.byContradiction fun hne=>n5 ⟨rfl,hk,hg,by rw [hfg],hne⟩
       have:=same heq
       split at he'
       ·cases he'
        rw [this.1,this.2]
       ·cases he'
      ·split at e
       ·rename_i h3
        rw [if_pos h3] at he';rw [e] at he';exact (Option.some.inj he').symm
       ·cases e
     ·rw [if_pos (.inr (by simpa [Tm.kind] using hg))] at e e'
      rw [e] at e';exact (Option.some.inj e').symm
theorem modes (hM:Closed D M)(hB: ∀i,AllL (wM nd ar) (D i)): ∀N,ModeStep D M nd ar N:=by
 intro N
 induction N with
 |zero=>intro s x y m m' s' r _ _ e;cases e
 |succ N ih=>
  intro s x y m m' s' r hmm h e e' hr;by_cases hsame:m=m'
  ·subst hsame;rw [e] at e';exact (Option.some.inj e').symm
  cases x with
  |var p=>
   cases y with
   |var q=>
    rw [zI] at e e';have hc:M.cls p=M.cls q:=h.ok 1;obtain ⟨a,b,hab,ha,hb⟩:=h.ht;obtain ⟨a',ea,ha'⟩:=ha.of_var;obtain ⟨b',eb,hb'⟩:=hb.of_var;unfold yU at e e'
    split at e
    ·rename_i h1
     rw [if_pos h1] at e';rw [e] at e';exact (Option.some.inj e').symm
    rename_i h1;rw [if_neg h1] at e'
    cases hp:s.v (s.j p) with
    |none=>
     cases hq:s.v (s.j q) <;>rw [hp,hq] at e e' <;>dsimp only at e e' <;>rw [e] at e' <;>exact (Option.some.inj e').symm
    |some u=>
     cases hq:s.v (s.j q) with
     |none=>rw [hp,hq] at e e';dsimp only at e e';rw [e] at e';exact (Option.some.inj e').symm
     |some v=>
      rw [hp,hq] at e e';dsimp only at e e';have hu:=h.inv.val p u hp;have hv:=h.inv.val q v hq;exact ih s u v m m' s' r hmm ⟨⟨a',b',by omega,ha' u hu,hb' v hv⟩,hM.vals _ _ _ hu (hc ▸ hv),h.inv,h.s _ _ hp,h.s _ _ hq,h.s⟩ e e' hr
   |node g bs=>rw [zI] at e e';exact match_modes hM ih s p g bs m m' s' r hmm h e e' hr
  |node f as=>
   cases y with
   |var q=>rw [zI] at e e';exact match_modes hM ih s q f as m m' s' r hmm h.symm e e' hr
   |node g bs=>
    rw [zI,yF] at e e';have hm':m'≠ .exact:=by
     rintro rfl;rcases hmm with h4 | ⟨_,h4⟩ | h4
     ·exact hsame h4
     ·exact h4 rfl
     ·exact hsame h4
    have S: ∀(e1:seqS (fun s a b=>zI D N s a b (inner m)) s as bs=some (.ok s')) (e2:seqS (fun s a b=>zI D N s a b (inner m')) s as bs=some r),r= .ok s':=fun e1 e2=>
     seqS_modes (I:=fun s=>Inv M s/\yS (Fit nd ar) s) as bs s s' r (fun i a b s1 s2 ha hb h1 e1=>by
      have F:=h.kid h1.1 h1.2 ha hb;exact ⟨F.post hM hB e1,fun r e2 hr=>ih s1 a b _ _ s2 r hmm.inner F e1 e2 hr⟩) ⟨h.inv,h.s⟩ e1 e2 hr
    split at e'
    ·exact absurd (Option.some.inj e').symm hr
    rename_i ndir;have ndir: ¬zT D (.node f as) (.node g bs)=true:=fun h1=>ndir ⟨hm',h1⟩
    rw [if_neg (by rintro ⟨_,h1⟩;exact ndir h1)] at e;by_cases hme:m= .exact
    ·subst hme
     rw [if_neg (by simp),if_neg (by simp),if_neg (by simp),if_neg (by simp)] at e
     split at e
     ·rename_i h1
      have hk:f.kind=g.kind:=by rw [h1.1]
      rw [if_neg (by omega),if_neg (by omega),if_neg (by omega)] at e'
      split at e'
      ·exact absurd (Option.some.inj e').symm hr
      first
      |rw [if_pos h1] at e';exact S e e'
      |exact S e e'
     ·cases e
    ·have hma:m= .assign:=by
      rcases hmm with h4 | ⟨h4,_⟩ | h4
      ·exact absurd h4 hme
      ·exact h4
      ·exact absurd h4 hsame
     subst hma
     split at e
     ·rename_i h1
      rw [if_pos ⟨hm',h1.2⟩] at e';exact ih s _ _ _ _ s' r hmm.inner (h.und hB h1.2.1 h1.2.2) e e' hr
     rename_i n1;rw [if_neg (by rintro ⟨_,h1⟩;exact n1 ⟨by simp,h1⟩)] at e'
     split at e
     ·rename_i h1
      rw [if_pos ⟨hm',h1.2⟩] at e';exact ih s _ _ _ _ s' r hmm.inner (h.symm.und hB h1.2.1 h1.2.2).symm e e' hr
     rename_i n2;rw [if_neg (by rintro ⟨_,h1⟩;exact n2 ⟨by simp,h1⟩)] at e'
     split at e
     ·cases e
     rename_i n3;rw [if_neg (by rintro ⟨_,h1⟩;exact n3 ⟨by simp,h1⟩)] at e'
     split at e
     ·cases e
     rename_i n4;rw [if_neg (by rintro ⟨h0,h1⟩;exact hsame h0.symm)] at e'
     split at e
     ·rename_i h5
      rw [if_pos h5] at e';exact S e e'
     ·cases e
end
end Uni
end
section
namespace Uni
inductive Occ:Tm->Nat->Prop
 |var (p:Nat):Occ (.var p) p
 |node (f:Lab) (as:List Tm) (a:Tm) (p:Nat):a∈as->Occ a p->Occ (.node f as) p
theorem Tm.sub_id: ∀t:Tm,t.sub .var=t:=by
 intro t
 induction t using Tm.ind with
 |hv p=>rw [Tm.sub_var]
 |hn f as ih=>
  rw [Tm.sub_node]
  congr 1
  exact (List.map_congr_left fun a ha=>ih a ha).trans (List.map_id' as)
theorem Occ.sub {θ:Nat->Tm}: ∀ {t:Tm}{q:Nat},Occ (t.sub θ) q-> ∃p,Occ t p/\Occ (θ p) q:=by
 intro t
 induction t using Tm.ind with
 |hv p=>intro q h;rw [Tm.sub_var] at h;exact ⟨p,.var p,h⟩
 |hn f as ih=>
  intro q h;rw [Tm.sub_node] at h
  cases h with
  |node _ _ a _ ha h=>
   obtain ⟨a',ha',rfl⟩:=List.mem_map.1 ha;obtain ⟨p,h1,h2⟩:=ih a' ha' h;exact ⟨p,.node f as a' p ha' h1,h2⟩
section
variable {D:zE}{M:Mg}{nd:Nat}{ar:Nat->Nat}
def DeepAt (s:St):Nat->Nat->Prop
 |0,p=>s.v (s.j p)=none/\s.j p=p
 |k + 1,p=>s.v (s.j p)=none\/ ∃u,s.v (s.j p)=some u/\ ∀q,Occ u q->DeepAt s k q
theorem DeepAt.mono {s:St}: ∀ {k k' p:Nat},DeepAt s k p->k<=k'->DeepAt s k' p:=by
 intro k
 induction k with
 |zero=>
  intro k' p h _
  cases k' with
  |zero=>exact h
  |succ k'=>exact .inl h.1
 |succ k ih=>
  intro k' p h hk;obtain ⟨k',rfl⟩: ∃k'',k'=k'' + 1:=⟨k' - 1,by omega⟩;rcases h with h | ⟨u,h1,h2⟩
  ·exact .inl h
  ·exact .inr ⟨u,h1,fun q hq=>ih (h2 q hq) (by omega)⟩
open Classical in
noncomputable def cnt (D:zE)(M:Mg)(s:St)(n h:Nat):Nat:=(List.range n).countP fun c=>decide (s.j c=c/\Ht D M h (.var c))
end
end Uni
end
