/- P9, P6, P7 -/
import Derived.Test.YtpekidjfbinekaaGreatDoorA01
set_option maxRecDepth 100000
set_option maxHeartbeats 60000000
set_option linter.all false
section
namespace Uni
section
variable {D:zE}{M:Mg}{nd:Nat}{ar:Nat->Nat}
structure Fine (D:zE) (M:Mg) (nd:Nat) (ar:Nat->Nat) (N:Nat) (s:St) (x y:Tm):Prop where
 ht: ∃a b,a + b < N/\Ht D M a x/\Ht D M b y
 ok:xL D M x y
 inv:Inv M s
 x:Fit nd ar x
 y:Fit nd ar y
 s:yS (Fit nd ar) s
theorem Fine.symm {N:Nat}{s:St}{x y:Tm}(h:Fine D M nd ar N s x y):Fine D M nd ar N s y x:=by
 obtain ⟨⟨a,b,h1,h2,h3⟩,h4,h5,h6,h7,h8⟩:=h;exact ⟨⟨b,a,by omega,h3,h2⟩,h4.symm,h5,h7,h6,h8⟩
theorem Fine.post (hM:Closed D M)(hB: ∀i,AllL (wM nd ar) (D i)){N:Nat}{s:St}{x y:Tm}(h:Fine D M nd ar N s x y){m:Mode}{s':St}(e:zI D N s x y m=some (.ok s')):Inv M s'/\yS (Fit nd ar) s':=by
 obtain ⟨a,b,hab,ha,hb⟩:=h.ht;obtain ⟨r,hr,hr'⟩:=wQ hM N a b s x y m hab h.ok ha hb h.inv;have hr2:=hr;rw [hr] at e;cases e;exact ⟨(hr' s' rfl).1,unifyS_keeps (fun f ts t h ht=>AllL.kid h ht) (fun t h=>Fit.und hB h) N s x y m s' h.x h.y h.s hr2⟩
theorem Fine.kid {N:Nat}{s s':St}{f g:Lab}{as bs:List Tm}(h:Fine D M nd ar (N + 1) s (.node f as) (.node g bs))(hi:Inv M s')(hs:yS (Fit nd ar) s'){i:Nat}{a b:Tm}(ha:as[i]?=some a)(hb:bs[i]?=some b):Fine D M nd ar N s' a b:=by
 obtain ⟨a0,b0,hab,hA,hB⟩:=h.ht;obtain ⟨a',hl,ha'⟩:=hA.kid (List.mem_of_getElem? ha);obtain ⟨b',hl',hb'⟩:=hB.kid (List.mem_of_getElem? hb);exact ⟨⟨a',b',by omega,ha',hb'⟩,fun k=>(h.ok (k + 1)).2.2 i a b ha hb,hi,h.x.kid (List.mem_of_getElem? ha),h.y.kid (List.mem_of_getElem? hb),hs⟩
theorem Fine.und (hB: ∀i,AllL (wM nd ar) (D i)){N:Nat}{s:St}{f g:Lab}{as bs:List Tm}(h:Fine D M nd ar (N + 1) s (.node f as) (.node g bs))(hf:f.kind=1)(hg:4<=g.kind):Fine D M nd ar N s (und D (.node f as)) (.node g bs):=by
 obtain ⟨a0,b0,hab,hA,hB'⟩:=h.ht;obtain ⟨a',hlt,ha'⟩:=hA.und hf;exact ⟨⟨a',b0,by omega,ha',hB'⟩,fun k=>(h.ok (k + 1)).1 hf hg,h.inv,Fit.und hB h.x,h.y,h.s⟩
theorem join_comm (s:St)(P Q:Nat)(h:s.v P=none\/s.v Q=none):s.join P Q=s.join Q P:=by
 unfold St.join
 congr 1
 ·funext i;simp only [or_comm,Nat.min_comm]
 ·funext i
  rw [Nat.min_comm]
  split
  ·cases hp:s.v P with
   |none=>cases hq:s.v Q <;>rfl
   |some a=>
    rcases h with h | h
    ·rw [hp] at h;cases h
    ·rw [h]
  ·rfl
theorem putAt_self (s:St)(P:Nat)(t:Tm)(h:s.v P=some t):s.putAt P t=s:=by
 unfold St.putAt
 cases s with
 |mk j v=>
  congr 1
  funext i
  dsimp only at h ⊢
  split
  ·subst_vars;exact h.symm
  ·rfl
theorem chanDir_node (f:Lab)(as:List Tm)(hf:f.kind=8):wH D (.node f as)=some f.n:=by
 unfold wH;rw [xO f as (by omega)];simp [hf]
theorem chanDir_und (hD:zZ D)(t:Tm):wH D (und D t)=wH D t:=by
 cases t with
 |var p=>rfl
 |node f as=>
  by_cases hf:f.kind=1
  ·obtain ⟨g',bs',e,hk⟩:=und_node hD f as hf
   unfold wH;rw [e,xO g' bs' (by omega)]
  ·rw [xO f as hf]
theorem directed_und (hD:zZ D)(x y:Tm):zT D (und D x) y=zT D x y:=by unfold zT;rw [chanDir_und hD]
theorem directed_symm (x y:Tm):zT D x y=zT D y x:=by
 unfold zT
 cases wH D x with
 |none=>cases wH D y <;>rfl
 |some a=>cases wH D y with
  |none=>rfl
  |some b=>simp only [bne,Bool.beq_comm (a:=a)]
theorem not_directed {f g:Lab}{as bs:List Tm}(h: ¬zT D (.node f as) (.node g bs)=true)(hf:f.kind=8)(hg:g.kind=8):f.n=g.n:=by
 unfold zT at h;rw [chanDir_node f as hf,chanDir_node g bs hg] at h;simpa using h
def Sim (D:zE)(M:Mg)(nd:Nat)(ar:Nat->Nat)(N:Nat):Prop:=
 ∀k s x y m,m≠ .assign->Fine D M nd ar N s x y-> ∀r,zI D N s x y m=some r->(∀q,zJ D k s x y m=some q->yM r q)/\(∀q,zJ D k s y x m=some q->yM r q)
theorem inner_ne (m:Mode):inner m≠ .assign:=by cases m <;>simp [inner]
theorem inner_inner (m:Mode):inner (inner m)=inner m:=by cases m <;>rfl
theorem nodes_struct (hM:Closed D M)(hB: ∀i,AllL (wM nd ar) (D i)){N:Nat}(ih:Sim D M nd ar N)(k:Nat)(s:St)(f:Lab)(as:List Tm)(g:Lab)(bs:List Tm)(m:Mode)
 (h:Fine D M nd ar (N + 1) s (.node f as) (.node g bs)) (hdir:m≠ .exact->f.kind=8->g.kind=8->f.n=g.n) (has:m= .assign->f.kind=1->f=g->as.length=bs.length->as=bs)
 (r:Res) (e:(if f=g/\as.length=bs.length then seqS (fun s a b=>zI D N s a b (inner m)) s as bs else some .fail)=some r):
 (∀q,zK (zJ D k) (zQ D k) s f as g bs m=some q->yM r q)/\(∀q,zK (zJ D k) (zQ D k) s g bs f as m=some q->yM r q):=by
 have post: ∀(i:Nat) (a b:Tm) (s:St),as[i]?=some a->bs[i]?=some b->(Inv M s/\yS (Fit nd ar) s)-> ∀r,zI D N s a b (inner m)=some r-> ∀s',r= .ok s'->Inv M s'/\yS (Fit nd ar) s':=fun i a b s ha hb hs r hr s' e=>by
  subst e;exact (h.kid hs.1 hs.2 ha hb).post hM hB hr
 have one: ∀k (i:Nat) (a b:Tm) (s:St),as[i]?=some a->bs[i]?=some b->(Inv M s/\yS (Fit nd ar) s)-> ∀r,zI D N s a b (inner m)=some r->(∀q,zJ D k s a b (inner m)=some q->yM r q)/\(∀q,zJ D k s b a (inner m)=some q->yM r q):=fun k i a b s ha hb hs r hr=>
  ih k s a b (inner m) (inner_ne m) (h.kid hs.1 hs.2 ha hb) r hr
 have named:f.kind=1->f=g->as.length=bs.length-> ∀(i:Nat) (a b:Tm) (s:St),as[i]?=some a->bs[i]?=some b->(Inv M s/\yS (Fit nd ar) s)-> ∀r,zI D N s a b (inner m)=some r->(∀q,zJ D k s a b m=some q->yM r q)/\(∀q,zJ D k s b a m=some q->yM r q):=by
  intro hf hfg hl i a b s ha hb hs r hr;by_cases hm:m= .assign
  ·have:=has hm hf hfg hl
   subst this;rw [ha] at hb;cases hb;cases unifyS_refl D N s a _ r hr
   exact ⟨fun q e=>by cases nifyT_refl D k s a m q e;exact .ok_,fun q e=>by cases nifyT_refl D k s a m q e;exact .ok_⟩
  ·have hi:inner m=m:=by cases m <;>first | rfl | exact absurd rfl hm
   have:=one k i a b s ha hb hs r hr;rw [hi] at this;exact this
 refine ⟨fun q e'=> ?_,fun q e'=> ?_⟩
 ·refine node_sim (I:=fun s=>Inv M s/\yS (Fit nd ar) s) m s f as g bs h.x.lab h.y.lab hdir (fun i a b s ha hb hs r hr=>⟨(one k i a b s ha hb hs r hr).1,post i a b s ha hb hs r hr⟩)
   (fun hf hfg hl i a b s ha hb hs r hr=>(named hf hfg hl i a b s ha hb hs r hr).1) (fun st hst i a b s ha hb hs r hr=> ?_) ⟨h.inv,h.s⟩ r e q e'
  cases k with
  |zero=>cases hst
  |succ k'=>cases hst;exact (one k' i a b s ha hb hs r hr).1
 ·rw [nifyNode_flip] at e'
  refine node_sim (I:=fun s=>Inv M s/\yS (Fit nd ar) s) m s f as g bs h.x.lab h.y.lab hdir (fun i a b s ha hb hs r hr=>⟨(one k i a b s ha hb hs r hr).2,post i a b s ha hb hs r hr⟩)
   (fun hf hfg hl i a b s ha hb hs r hr=>(named hf hfg hl i a b s ha hb hs r hr).2) (fun st hst i a b s ha hb hs r hr=> ?_) ⟨h.inv,h.s⟩ r e q e'
  cases k with
  |zero=>cases hst
  |succ k'=>cases hst;exact (one k' i a b s ha hb hs r hr).2
theorem named_lit (hD:zZ D)(hM:Closed D M)(hB: ∀i,AllL (wM nd ar) (D i)){N:Nat}(ih: ∀N',N'<=N->Sim D M nd ar N')(k:Nat)(s:St)(f:Lab)(as:List Tm)(g:Lab)(bs:List Tm)(m:Mode)
 (h:Fine D M nd ar (N + 1) s (.node f as) (.node g bs)) (hm:m≠ .exact) (hdir: ¬zT D (.node f as) (.node g bs)=true) (hf:f.kind=1) (hg:4<=g.kind)
 (r:Res) (e:zI D N s (und D (.node f as)) (.node g bs) (inner m)=some r\/zI D N s (.node g bs) (und D (.node f as)) (inner m)=some r):
 (∀q,zJ D k s (.node f as) (.node g bs) m=some q->yM r q)/\(∀q,zJ D k s (.node g bs) (.node f as) m=some q->yM r q):=by
 cases k with
 |zero=>exact ⟨(fun q e=>by cases e),(fun q e=>by cases e)⟩
 |succ k=>
  have F:=h.und hB hf hg;rw [<-directed_und hD] at hdir;rw [xT,xT,if_pos hf,if_neg (by omega)];unfold xD;rw [if_pos ⟨hm,hf,by omega⟩];obtain ⟨f',as',eu,hk⟩:=und_node hD f as hf;rw [eu] at F e hdir ⊢;dsimp only
  suffices hh: ∀q,zK (zJ D k) (zQ D k) s g bs f' as' m=some q->yM r q from ⟨hh,hh⟩
  cases N with
  |zero=>rcases e with e | e <;>cases e
  |succ N=>
   rcases e with e | e
   ·rw [zI,yF] at e
    split at e
    ·rename_i h1;exact absurd h1.2 hdir
    rw [if_neg (by omega),if_neg (by omega),if_neg (by omega),if_neg (by omega),inner_inner] at e;exact (nodes_struct hM hB (ih N (by omega)) k s f' as' g bs m F (fun _ a b=>not_directed hdir a b) (fun _ a=>by omega) r e).2
   ·have hdir': ¬zT D (.node g bs) (.node f' as')=true:=by rw [directed_symm];exact hdir
    rw [zI,yF] at e
    split at e
    ·rename_i h1;exact absurd h1.2 hdir'
    rw [if_neg (by omega),if_neg (by omega),if_neg (by omega),if_neg (by omega),inner_inner] at e;exact (nodes_struct hM hB (ih N (by omega)) k s g bs f' as' m F.symm (fun _ a b=>not_directed hdir' a b) (fun _ a=>by omega) r e).1
theorem nodes_sim (hD:zZ D)(hM:Closed D M)(hB: ∀i,AllL (wM nd ar) (D i)){N:Nat}(ih: ∀N',N'<=N->Sim D M nd ar N')(k:Nat)(s:St)(f:Lab)(as:List Tm)(g:Lab)(bs:List Tm)(m:Mode)
 (h:Fine D M nd ar (N + 1) s (.node f as) (.node g bs)) (r:Res) (e:yF D (zI D N) s f as g bs m=some r):
 (∀q,zJ D k s (.node f as) (.node g bs) m=some q->yM r q)/\(∀q,zJ D k s (.node g bs) (.node f as) m=some q->yM r q):=by
 have kf:=h.x.lab.1.k2;have kf3:=h.x.lab.2.2;have kg:=h.y.lab.1.k2;have kg3:=h.y.lab.2.2;unfold yF at e
 split at e
 ·cases e;exact ⟨fun _ _=>trivial,fun _ _=>trivial⟩
 rename_i hdir
 split at e
 ·rename_i h1
  exact named_lit hD hM hB ih k s f as g bs m h h1.1 (fun h2=>hdir ⟨h1.1,h2⟩) h1.2.1 h1.2.2 r (.inl e)
 rename_i n1
 split at e
 ·rename_i h1
  exact (named_lit hD hM hB ih k s g bs f as m h.symm h1.1 (fun h2=>hdir ⟨h1.1,by rw [directed_symm];exact h2⟩) h1.2.1 h1.2.2 r (.inr e)).symm
 rename_i n2
 split at e
 ·cases e;exact ⟨fun _ _=>trivial,fun _ _=>trivial⟩
 rename_i n3
 split at e
 ·cases e;exact ⟨fun _ _=>trivial,fun _ _=>trivial⟩
 rename_i n4
 cases k with
 |zero=>exact ⟨(fun q e=>by cases e),(fun q e=>by cases e)⟩
 |succ k=>
  have S:=nodes_struct hM hB (ih N (by omega)) k s f as g bs m h (fun hm a b=>not_directed (fun h2=>hdir ⟨hm,h2⟩) a b)
   (fun hm hf hfg hl=>Classical.byContradiction fun hne=>n4 ⟨hm,hf,hfg ▸ hf,by rw [hfg],fun h2=>hne (by injection h2)⟩) r e
  have hk:m≠ .exact->(f.kind=1↔g.kind=1):=fun hm=>by
   constructor
   ·intro h1
    refine Classical.byContradiction fun h2=> ?_
    by_cases h0:g.kind=0
    ·exact n3 ⟨hm,.inl ⟨h1,h0⟩⟩
    ·exact n1 ⟨hm,h1,by omega⟩
   ·intro h1
    refine Classical.byContradiction fun h2=> ?_
    by_cases h0:f.kind=0
    ·exact n3 ⟨hm,.inr ⟨h0,h1⟩⟩
    ·exact n2 ⟨hm,h1,by omega⟩
  have l1:xD D (zJ D k) (zQ D k) s f as g bs m=zK (zJ D k) (zQ D k) s f as g bs m:=by
   unfold xD;rw [if_neg];rintro ⟨hm,h1,h2⟩;exact h2 ((hk hm).2 h1)
  have l2:xD D (zJ D k) (zQ D k) s g bs f as m=zK (zJ D k) (zQ D k) s g bs f as m:=by
   unfold xD;rw [if_neg];rintro ⟨hm,h1,h2⟩;exact h2 ((hk hm).1 h1)
  rw [xT,xT,l1,l2];refine ⟨fun q e=> ?_,fun q e=> ?_⟩
  ·split at e
   ·exact S.2 q e
   ·exact S.1 q e
  ·split at e
   ·exact S.1 q e
   ·exact S.2 q e
theorem Fine.value (hM:Closed D M){N:Nat}{s:St}{p:Nat}{t k:Tm}(h:Fine D M nd ar (N + 1) s (.var p) t)(ht:t∈M.vals (M.cls p))(hv:s.v (s.j p)=some k):
 Fine D M nd ar N s k t/\ ∀m s',zI D N s k t m=some (.ok s')->s'.j p=s.j p:=by
 obtain ⟨a,b,hab,ha,hb⟩:=h.ht;obtain ⟨a0,h0,hA,hno⟩:=below ha;have hk:=h.inv.val p k hv;refine ⟨⟨⟨a0,min b a0,by omega,hA k hk,hb.min (hA t ht)⟩,hM.vals _ _ _ hk ht,h.inv,h.s _ _ hv,h.y,h.s⟩,fun m s' e=> ?_⟩;obtain ⟨r,hr,hr'⟩:=wQ hM N a0 (min b a0) s k t m (by omega) (hM.vals _ _ _ hk ht) (hA k hk) (hb.min (hA t ht)) h.inv;rw [hr] at e;cases e;have k1:=(hr' s' rfl).2;rw [show max a0 (min b a0)=a0 by omega] at k1
 exact k1 p hno
theorem match_sim (hM:Closed D M){N:Nat}(ih:Sim D M nd ar N)(k:Nat)(s:St)(p:Nat)(g:Lab)(bs:List Tm)(m:Mode)(hm:m≠ .assign)
 (h:Fine D M nd ar (N + 1) s (.var p) (.node g bs)) (r:Res) (e:zX N (zI D N) s (s.j p) (.node g bs) m=some r):
 ∀q,yB (zJ D k) s p (.node g bs) m=some q->yM r q:=by
 intro q e';have ht:Tm.node g bs∈M.vals (M.cls p):=h.ok 1;unfold zX at e;unfold yB St.get at e'
 cases hv:s.v (s.j p) with
 |none=>
  rw [hv] at e e';dsimp only at e e'
  split at e
  ·cases e;cases e';exact .ok_
  ·cases e
 |some u=>
  rw [hv] at e e';dsimp only at e e';obtain ⟨F,hj⟩:=h.value hM ht hv
  cases h1:zI D N s u (.node g bs) m with
  |none=>rw [h1] at e;cases e
  |some r1=>
   rw [h1] at e
   cases h2:zJ D k s u (.node g bs) m with
   |none=>rw [h2] at e';cases e'
   |some q1=>
    have A:=(ih k s u (.node g bs) m hm F r1 h1).1 q1 h2;rw [h2] at e'
    cases r1 with
    |silent=>cases e;trivial
    |fail=>
     have:q1=none:=A;subst this;cases e;cases e';rfl
    |ok s1=>
     have:=A.get;subst this;dsimp only at e e';obtain ⟨fu,us,rfl⟩:=hM.nodes _ _ (h.inv.val p u hv);have hn: ∀(f:Lab) (as:List Tm),xR (.node f as)=true↔f.kind=1:=fun f as=>by simp [xR,isVar,Tm.kind]
     have same:Tm.node fu us= .node g bs->s1=s/\s.putAt (s.j p) (.node g bs)=s:=fun he=>by
      rw [he] at h1 hv;exact ⟨by cases unifyS_refl D N s _ _ _ h1;rfl,putAt_self s _ _ hv⟩
     cases m with
     |assign=>exact absurd rfl hm
     |exact=>
      rw [if_neg (by simp),if_pos (.inl rfl)] at e;rw [if_pos (.inl rfl)] at e';cases e;cases e';exact .ok_
     |loose=>
      split at e
      ·cases e;trivial
      rename_i hno;have hno:fu.kind=g.kind->(g.kind=1\/g.kind=8)->Tm.node fu us= .node g bs:=fun a b=>Classical.byContradiction fun c=>hno ⟨rfl,a,b,c⟩
      by_cases hu:fu.kind=1
      ·rw [if_pos (.inr ((hn fu us).2 hu))] at e'
       cases e'
       split at e
       ·cases e;exact .ok_
       ·rename_i h3
        have hg:g.kind=1:=Classical.byContradiction fun h4=>h3 (.inr h4)
        split at e
        ·cases e
         have:=same (hno (by omega) (.inl hg));rw [this.1,this.2];exact .ok_
        ·cases e
      ·rw [if_neg (by simp [hn,hu])] at e'
       by_cases hg:g.kind=1
       ·rw [if_pos (.inl ((hn g bs).2 hg))] at e'
        cases e'
        rw [if_neg (by simp [Tm.kind,hg])] at e
        split at e
        ·cases e;rw [hj _ _ h1];exact .ok_
        ·cases e
       ·rw [if_pos (.inr hg)] at e
        cases e
        split at e'
        ·rename_i h5
         cases e'
         have h8:g.kind=8:=by
          rcases h5 with h5 | h5
          ·exact absurd ((hn g bs).1 h5) hg
          ·simp [dirChan] at h5;exact h5.1
         have hu8:fu.kind=8:=by
          cases N with
          |zero=>cases h1
          |succ N=>
           rw [zI,yF] at h1
           split at h1
           ·cases h1
           rw [if_neg (by omega),if_neg (by omega)] at h1
           split at h1
           ·cases h1
           rw [if_neg (by simp)] at h1
           split at h1
           ·rename_i h6;rw [h6.1];exact h8
           ·cases h1
         have:=same (hno (by omega) (.inr h8));rw [this.1,this.2];exact .ok_
        ·cases e';exact .ok_
theorem vars_sim (hM:Closed D M){N:Nat}(ih:Sim D M nd ar N)(k:Nat)(s:St)(p q:Nat)(m:Mode)(hm:m≠ .assign)
 (h:Fine D M nd ar (N + 1) s (.var p) (.var q)) (r:Res) (e:yU N (zI D N) s (s.j p) (s.j q) m=some r):
 (∀o,yW (zJ D k) s q p m=some o->yM r o)/\(∀o,yW (zJ D k) s p q m=some o->yM r o):=by
 have hc:M.cls p=M.cls q:=h.ok 1;obtain ⟨a,b,hab,ha,hb⟩:=h.ht;obtain ⟨a',ea,ha'⟩:=ha.of_var;obtain ⟨b',eb,hb'⟩:=hb.of_var;unfold yU at e;unfold yW St.get;by_cases hj:s.j p=s.j q
 ·rw [if_pos hj] at e
  cases e
  rw [if_pos hj,if_pos hj.symm];exact ⟨fun o e=>by cases e;exact .ok_,fun o e=>by cases e;exact .ok_⟩
 ·rw [if_neg hj] at e
  rw [if_neg hj,if_neg (Ne.symm hj)]
  cases hp:s.v (s.j p) with
  |none=>
   have jc:=join_comm s (s.j p) (s.j q) (.inl hp);have hr:r= .ok (s.join (s.j p) (s.j q)):=by
    cases hq:s.v (s.j q) with
    |none=>rw [hp,hq] at e;cases e;rfl
    |some u=>
     rw [hp,hq] at e;dsimp only at e
     split at e
     ·cases e;rfl
     ·cases e
   subst hr
   cases hq:s.v (s.j q) with
   |none=>exact ⟨fun o e=>by cases e;rw [<-jc];exact .ok_,fun o e=>by cases e;exact .ok_⟩
   |some u=>exact ⟨fun o e=>by cases e;rw [<-jc];exact .ok_,fun o e=>by cases e;exact .ok_⟩
  |some u=>
   cases hq:s.v (s.j q) with
   |none=>
    have jc:=join_comm s (s.j p) (s.j q) (.inr hq);rw [hp,hq] at e;dsimp only at e
    split at e
    ·cases e
     exact ⟨fun o e=>by cases e;rw [<-jc];exact .ok_,fun o e=>by cases e;exact .ok_⟩
    ·cases e
   |some v=>
    rw [hp,hq] at e;dsimp only at e ⊢;have hu:=h.inv.val p u hp;have hv:=h.inv.val q v hq;have F:Fine D M nd ar N s u v:=⟨⟨a',b',by omega,ha' u hu,hb' v hv⟩,hM.vals _ _ _ hu (hc ▸ hv),h.inv,h.s _ _ hp,h.s _ _ hq,h.s⟩;have A:=ih k s u v m hm F r e;exact ⟨A.2,A.1⟩
theorem sim (hD:zZ D)(hM:Closed D M)(hB: ∀i,AllL (wM nd ar) (D i)): ∀N,Sim D M nd ar N:=by
 intro N
 induction N using Nat.strongRecOn with
 |ind N ih=>
  intro k s x y m hm h r e
  cases N with
  |zero=>cases e
  |succ N=>
   cases k with
   |zero=>exact ⟨(fun q e=>by cases e),(fun q e=>by cases e)⟩
   |succ k=>
    cases x with
    |var p=>
     cases y with
     |var q=>
      rw [zI] at e;rw [zJ,zJ];exact vars_sim hM (ih N (by omega)) k s p q m hm h r e
     |node g bs=>
      rw [zI] at e;rw [zJ,zJ];have:=match_sim hM (ih N (by omega)) k s p g bs m hm h r e;exact ⟨this,this⟩
    |node f as=>
     cases y with
     |var q=>
      rw [zI] at e;rw [zJ,zJ];have:=match_sim hM (ih N (by omega)) k s q f as m hm h.symm r e;exact ⟨this,this⟩
     |node g bs=>
      rw [zI] at e;exact nodes_sim hD hM hB (fun N' h'=>ih N' (by omega)) (k + 1) s f as g bs m h r e
end
end Uni
end
section
namespace Uni
structure Grow (M M':Mg):Prop where
 cls: ∀p q,M.cls p=M.cls q->M'.cls p=M'.cls q
 vals: ∀p t,t∈M.vals (M.cls p)->t∈M'.vals (M'.cls p)
theorem Grow.refl (M:Mg):Grow M M:=⟨fun _ _ h=>h,fun _ _ h=>h⟩
theorem Grow.trans {A B C:Mg}(h:Grow A B)(k:Grow B C):Grow A C:=⟨fun p q e=>k.cls p q (h.cls p q e),fun p t e=>k.vals p t (h.vals p t e)⟩
theorem Ok.grow {D:zE}{M M':Mg}(g:Grow M M'): ∀ {k:Nat}{x y:Tm},Ok D M k x y->Ok D M' k x y:=by
 intro k
 induction k with
 |zero=>intro x y _;trivial
 |succ k ih=>
  intro x y h
  cases x with
  |var p=>
   cases y with
   |var q=>exact g.cls p q h
   |node f as=>exact g.vals p _ h
  |node f as=>
   cases y with
   |var q=>exact g.vals q _ h
   |node f' bs=>exact ⟨fun a b=>ih (h.1 a b),fun a b=>ih (h.2.1 a b),fun i a b ha hb=>ih (h.2.2 i a b ha hb)⟩
theorem xL.grow {D:zE}{M M':Mg}(g:Grow M M'){x y:Tm}(h:xL D M x y):xL D M' x y:=fun k=>(h k).grow g
structure ClosedP (D:zE) (M:Mg) (P:Tm->Tm->Prop):Prop where
 nodes: ∀p t,t∈M.vals (M.cls p)-> ∃f as,t= .node f as
 vals: ∀p x y,x∈M.vals (M.cls p)->y∈M.vals (M.cls p)->xL D M x y\/P x y
theorem ClosedP.done {D:zE}{M:Mg}{P Q:Tm->Tm->Prop}(h:ClosedP D M fun x y=>P x y\/Q x y)(hQ: ∀x y,Q x y->xL D M x y):ClosedP D M P:=by
 refine ⟨h.nodes,fun p x y hx hy=> ?_⟩;rcases h.vals p x y hx hy with h | h | h
 ·exact .inl h
 ·exact .inr h
 ·exact .inl (hQ x y h)
structure Merged (D:zE) (M M':Mg) (x y:Tm):Prop where
 grow:Grow M M'
 closed: ∀P,ClosedP D M P->ClosedP D M' P
 ok:xL D M' x y
def Mg.unite (M:Mg)(p q:Nat):Mg where
 cls i:=if M.cls i=q then p else M.cls i
 vals i:=if i=p then M.vals p ++ M.vals q else M.vals i
theorem Mg.unite_grow (M:Mg)(x y:Nat):Grow M (M.unite (M.cls x) (M.cls y)):=by
 refine ⟨fun p q h=> ?_,fun p t h=> ?_⟩
 ·simp only [Mg.unite,h]
 ·simp only [Mg.unite]
  by_cases h1:M.cls p=M.cls y
  ·rw [if_pos h1,if_pos rfl,List.mem_append]
   exact .inr (h1 ▸ h)
  ·rw [if_neg h1]
   by_cases h2:M.cls p=M.cls x
   ·rw [if_pos h2,List.mem_append];exact .inl (h2 ▸ h)
   ·rw [if_neg h2];exact h
def Cross (a b:List Tm)(x y:Tm):Prop:=x∈a/\y∈b\/x∈b/\y∈a
theorem ClosedP.unite {D:zE}{M:Mg}{P:Tm->Tm->Prop}(h:ClosedP D M P)(x y:Nat):
 ClosedP D (M.unite (M.cls x) (M.cls y)) fun u v=>P u v\/Cross (M.vals (M.cls x)) (M.vals (M.cls y)) u v:=by
 have g:=M.unite_grow x y;have key: ∀p t,t∈(M.unite (M.cls x) (M.cls y)).vals ((M.unite (M.cls x) (M.cls y)).cls p)->t∈M.vals (M.cls p)\/((M.cls p=M.cls x\/M.cls p=M.cls y)/\(t∈M.vals (M.cls x)\/t∈M.vals (M.cls y))):=by
  intro p t ht;simp only [Mg.unite] at ht;by_cases h1:M.cls p=M.cls y
  ·rw [if_pos h1,if_pos rfl,List.mem_append] at ht
   exact .inr ⟨.inr h1,ht⟩
  ·rw [if_neg h1] at ht
   by_cases h2:M.cls p=M.cls x
   ·rw [if_pos h2,List.mem_append] at ht
    exact .inr ⟨.inl h2,ht⟩
   ·rw [if_neg h2] at ht;exact .inl ht
 refine ⟨fun p t ht=> ?_,fun p u v hu hv=> ?_⟩
 ·rcases key p t ht with h1 | ⟨_,h1 | h1⟩
  ·exact h.nodes p t h1
  ·exact h.nodes x t h1
  ·exact h.nodes y t h1
 ·have lift: ∀c,u∈M.vals (M.cls c)->v∈M.vals (M.cls c)->xL D (M.unite (M.cls x) (M.cls y)) u v\/P u v\/Cross (M.vals (M.cls x)) (M.vals (M.cls y)) u v:=by
   intro c h1 h2;rcases h.vals c u v h1 h2 with h | h
   ·exact .inl (h.grow g)
   ·exact .inr (.inl h)
  rcases key p u hu with h1 | ⟨hp,h1⟩
  ·rcases key p v hv with h2 | ⟨hp',h2⟩
   ·exact lift p h1 h2
   ·rcases hp' with hp' | hp' <;>rw [hp'] at h1 <;>rcases h2 with h2 | h2
    ·exact lift x h1 h2
    ·exact .inr (.inr (.inl ⟨h1,h2⟩))
    ·exact .inr (.inr (.inr ⟨h1,h2⟩))
    ·exact lift y h1 h2
  ·have h2:v∈M.vals (M.cls x)\/v∈M.vals (M.cls y):=by
    rcases key p v hv with h2 | ⟨_,h2⟩
    ·rcases hp with hp | hp <;>rw [hp] at h2
     ·exact .inl h2
     ·exact .inr h2
    ·exact h2
   rcases h1 with h1 | h1 <;>rcases h2 with h2 | h2
   ·exact lift x h1 h2
   ·exact .inr (.inr (.inl ⟨h1,h2⟩))
   ·exact .inr (.inr (.inr ⟨h1,h2⟩))
   ·exact lift y h1 h2
def Mg.put (M:Mg)(c:Nat)(t:Tm):Mg where
 cls:=M.cls
 vals i:=if i=c then M.vals c ++ [t] else M.vals i
theorem Mg.put_grow (M:Mg)(c:Nat)(t:Tm):Grow M (M.put c t):=by
 refine ⟨fun p q h=>h,fun p u h=> ?_⟩;simp only [Mg.put];by_cases h1:M.cls p=c
 ·rw [if_pos h1,List.mem_append];exact .inl (h1 ▸ h)
 ·rw [if_neg h1];exact h
theorem ClosedP.put {D:zE}{M:Mg}{P:Tm->Tm->Prop}(h:ClosedP D M P)(x:Nat)(f:Lab)(as:List Tm):
 ClosedP D (M.put (M.cls x) (.node f as)) fun u v=>P u v\/Cross (M.vals (M.cls x)) [.node f as] u v:=by
 have g:=M.put_grow (M.cls x) (.node f as);have key: ∀p t,t∈(M.put (M.cls x) (.node f as)).vals ((M.put (M.cls x) (.node f as)).cls p)->t∈M.vals (M.cls p)\/(M.cls p=M.cls x/\t= .node f as):=by
  intro p t ht;simp only [Mg.put] at ht;by_cases h1:M.cls p=M.cls x
  ·rw [if_pos h1,List.mem_append] at ht
   rcases ht with ht | ht
   ·exact .inl (h1 ▸ ht)
   ·exact .inr ⟨h1,by simpa using ht⟩
  ·rw [if_neg h1] at ht;exact .inl ht
 have nodes: ∀p t,t∈(M.put (M.cls x) (.node f as)).vals ((M.put (M.cls x) (.node f as)).cls p)-> ∃f as,t= .node f as:=fun p t ht=>by
  rcases key p t ht with h1 | ⟨_,h1⟩
  ·exact h.nodes p t h1
  ·exact ⟨f,as,h1⟩
 have nall: ∀p t,t∈M.vals (M.cls p)-> ∃f as,t= .node f as:=h.nodes;refine ⟨nodes,fun p u v hu hv=> ?_⟩;rcases key p u hu with h1 | ⟨hp,h1⟩ <;>rcases key p v hv with h2 | ⟨hp',h2⟩
 ·rcases h.vals p u v h1 h2 with h | h
  ·exact .inl (h.grow g)
  ·exact .inr (.inl h)
 ·rw [hp'] at h1;exact .inr (.inr (.inl ⟨h1,by simp [h2]⟩))
 ·rw [hp] at h2;exact .inr (.inr (.inr ⟨by simp [h1],h2⟩))
 ·subst h1 h2
  refine .inl fun k=> ?_
  clear hu hv;have refl: ∀(k:Nat) (t:Tm),Ok D (M.put (M.cls x) (.node f as)) k t t:=by
   intro k
   induction k with
   |zero=>intro t;trivial
   |succ k ih=>
    intro t
    cases t with
    |var p=>rfl
    |node f as=>
     refine ⟨fun a b=>by omega,fun a b=>by omega,fun i a b ha hb=> ?_⟩;rw [ha] at hb;cases hb;exact ih a
  exact refl k _
theorem ClosedP.closed {D:zE}{M:Mg}(h:ClosedP D M fun _ _=>False): ∃M':Mg,Closed D M'/\(∀x y,xL D M x y->xL D M' x y)/\ ∀n t,Ht D M n t->Ht D M' n t:=by
 classical
 let M':Mg:=⟨M.cls,fun c=>if ∃p,M.cls p=c then M.vals c else []⟩;have hv: ∀p,M'.vals (M'.cls p)=M.vals (M.cls p):=fun p=>by
  show (if ∃q,M.cls q=M.cls p then M.vals (M.cls p) else [])=_;rw [if_pos ⟨p,rfl⟩]
 have g:Grow M M':=⟨fun _ _ h=>h,fun p t h=>by rw [hv];exact h⟩;have hc: ∀c t,t∈M'.vals c-> ∃p,M.cls p=c/\t∈M.vals (M.cls p):=fun c t ht=>by
  have ht:t∈(if ∃q,M.cls q=c then M.vals c else []):=ht
  split at ht
  ·rename_i hp;obtain ⟨p,rfl⟩:=hp;exact ⟨p,rfl,ht⟩
  ·cases ht
 refine ⟨M',⟨fun c t ht=> ?_,fun c x y hx hy=> ?_⟩,fun x y h=>h.grow g,fun n t h=> ?_⟩
 ·obtain ⟨p,_,hp⟩:=hc c t ht;exact h.nodes p t hp
 ·obtain ⟨p,rfl,hp⟩:=hc c x hx
  have hy:y∈M'.vals (M'.cls p):=hy;rw [hv] at hy;rcases h.vals p x y hp hy with h | h
  ·exact h.grow g
  ·cases h
 ·induction h with
  |var n p _ ih=>exact .var n p fun v hv'=>ih v (by rw [<-hv p];exact hv')
  |node n f as hf _ _ ih1 ih2=>exact .node n f as hf ih1 ih2
  |func n f as hf _ ih=>exact .func n f as hf ih
structure Run (D:zE) (M M':Mg) (S:Tm->Tm->Prop):Prop where
 grow:Grow M M'
 closed: ∀P,ClosedP D M P->ClosedP D M' P
 ok: ∀x y,S x y->xL D M' x y
theorem Run.refl (D:zE)(M:Mg):Run D M M fun _ _=>False:=⟨Grow.refl M,fun _ h=>h,fun _ _ h=>h.elim⟩
theorem Run.step {D:zE}{M M1 M2:Mg}{S:Tm->Tm->Prop}{x y:Tm}(h:Run D M M1 S)(k:Merged D M1 M2 x y):Run D M M2 fun u v=>S u v\/(u=x/\v=y):=by
 refine ⟨h.grow.trans k.grow,fun P hP=>k.closed P (h.closed P hP),fun u v hs=> ?_⟩;rcases hs with hs | ⟨rfl,rfl⟩
 ·exact (h.ok u v hs).grow k.grow
 ·exact k.ok
theorem Run.mono {D:zE}{M M1:Mg}{S S':Tm->Tm->Prop}(h:Run D M M1 S)(hs: ∀x y,S' x y->S x y):Run D M M1 S':=⟨h.grow,h.closed,fun x y k=>h.ok x y (hs x y k)⟩
theorem Merged.swap {D:zE}{M M':Mg}{x y:Tm}(h:Merged D M M' x y):Merged D M M' y x:=⟨h.grow,h.closed,h.ok.symm⟩
theorem merged_same {D:zE}{M:Mg}{x y:Nat}(h:M.cls x=M.cls y):Merged D M M (.var x) (.var y):=
 ⟨Grow.refl M,fun _ h=>h,fun k=>by cases k;trivial;exact h⟩
theorem merged_have {D:zE}{M:Mg}{x:Nat}{f:Lab}{as:List Tm}(h: .node f as∈M.vals (M.cls x)):Merged D M M (.var x) (.node f as):=
 ⟨Grow.refl M,fun _ h=>h,fun k=>by cases k;trivial;exact h⟩
theorem cross_symm {D:zE}{M:Mg}{a b:List Tm}(h: ∀x∈a,∀y∈b,xL D M x y)(x y:Tm)(hc:Cross a b x y):xL D M x y:=by
 rcases hc with ⟨h1,h2⟩ | ⟨h1,h2⟩
 ·exact h x h1 y h2
 ·exact (h y h2 x h1).symm
theorem merged_unite {D:zE}{M M':Mg}{x y:Nat}{S:Tm->Tm->Prop}(h:Run D (M.unite (M.cls x) (M.cls y)) M' S)(hs: ∀a∈M.vals (M.cls x),∀b∈M.vals (M.cls y),S a b):Merged D M M' (.var x) (.var y):=by
 refine ⟨(M.unite_grow x y).trans h.grow,fun P hP=> ?_,fun k=> ?_⟩
 ·exact (h.closed _ (hP.unite x y)).done (cross_symm fun a ha b hb=>h.ok a b (hs a ha b hb))
 ·cases k
  ·trivial
  ·refine h.grow.cls x y ?_
   simp only [Mg.unite,if_true]
   split <;>simp_all
theorem merged_put {D:zE}{M M':Mg}{x:Nat}{f:Lab}{as:List Tm}{S:Tm->Tm->Prop}(h:Run D (M.put (M.cls x) (.node f as)) M' S)(hs: ∀a∈M.vals (M.cls x),S a (.node f as)):Merged D M M' (.var x) (.node f as):=by
 refine ⟨(M.put_grow _ _).trans h.grow,fun P hP=> ?_,fun k=> ?_⟩
 ·exact (h.closed _ (hP.put x f as)).done (cross_symm fun a ha b hb=>by simp at hb;subst hb;exact h.ok a _ (hs a ha))
 ·cases k
  ·trivial
  ·exact h.grow.vals x _ (by simp [Mg.put])
theorem yX {D:zE}{M M':Mg}{f g:Lab}{as bs:List Tm}{S:Tm->Tm->Prop}(h:Run D M M' S)(h1:f.kind=1->4<=g.kind->S (und D (.node f as)) (.node g bs))(h2:g.kind=1->4<=f.kind->S (.node f as) (und D (.node g bs)))
 (h3: ∀(i:Nat) (a b:Tm),as[i]?=some a->bs[i]?=some b->S a b):Merged D M M' (.node f as) (.node g bs):=by
 refine ⟨h.grow,h.closed,fun k=> ?_⟩;cases k
 ·trivial
 ·exact ⟨fun a b=>h.ok _ _ (h1 a b) _,fun a b=>h.ok _ _ (h2 a b) _,fun i a b ha hb=>h.ok a b (h3 i a b ha hb) _⟩
end Uni
end
section
namespace Uni
theorem sum_put (f:Nat->Nat)(c d:Nat): ∀L:List Nat,L.Nodup->(L.map fun i=>if i=c then f c + d else f i).sum=(L.map f).sum + (if c∈L then d else 0):=by
 intro L
 induction L with
 |nil=>intro _;simp
 |cons a L ih=>
  intro h;rw [List.nodup_cons] at h;rw [List.map_cons,List.map_cons,List.sum_cons,List.sum_cons,ih h.2];by_cases hac:a=c
  ·subst hac
   simp [h.1];omega
  ·rw [if_neg hac]
   by_cases hc:c∈L
   ·simp [hc];omega
   ·simp [hc,Ne.symm hac]
theorem sum_erase (f:Nat->Nat)(q:Nat): ∀L:List Nat,q∈L->(L.map f).sum=f q + ((L.erase q).map f).sum:=by
 intro L
 induction L with
 |nil=>intro h;cases h
 |cons a L ih=>
  intro h;by_cases haq:a=q
  ·subst haq;simp
  ·have:q∈L:=by simpa [Ne.symm haq] using h
   rw [List.erase_cons_tail (by simpa using haq),List.map_cons,List.map_cons,List.sum_cons,List.sum_cons,ih this];omega
def Wt (M:Mg)(n k:Nat):Prop:= ∃L:List Nat,L.Nodup/\(∀i,i < n->M.cls i∈L)/\(L.map fun c=>(M.vals c).length).sum<=k
theorem Wt.mono {M:Mg}{n k k':Nat}(h:Wt M n k)(hk:k<=k'):Wt M n k':=by
 obtain ⟨L,h1,h2,h3⟩:=h;exact ⟨L,h1,h2,by omega⟩
theorem Wt.len {M:Mg}{n k:Nat}(h:Wt M n k){i:Nat}(hi:i < n):(M.vals (M.cls i)).length<=k:=by
 obtain ⟨L,h1,h2,h3⟩:=h;have:=sum_erase (fun c=>(M.vals c).length) _ L (h2 i hi);omega
theorem Wt.put {M:Mg}{n k:Nat}(h:Wt M n k)(c:Nat)(t:Tm):Wt (M.put c t) n (k + 1):=by
 obtain ⟨L,h1,h2,h3⟩:=h;refine ⟨L,h1,h2,?_⟩;have:=sum_put (fun c=>(M.vals c).length) c 1 L h1;have e:(fun i=>((M.put c t).vals i).length)=fun i=>if i=c then (M.vals c).length + 1 else (M.vals i).length:=by
  funext i
  simp only [Mg.put]
  split <;>simp
 rw [e,this]
 split <;>omega
theorem Wt.unite {M:Mg}{n k:Nat}(h:Wt M n k){x y:Nat}(hx:x < n)(hy:y < n)(hne:M.cls x≠M.cls y):Wt (M.unite (M.cls x) (M.cls y)) n k:=by
 obtain ⟨L,h1,h2,h3⟩:=h;refine ⟨L.erase (M.cls y),h1.erase _,fun i hi=> ?_,?_⟩
 ·simp only [Mg.unite]
  split
  ·exact (List.mem_erase_of_ne hne).2 (h2 x hx)
  ·exact (List.mem_erase_of_ne ‹_›).2 (h2 i hi)
 ·have a:=sum_put (fun c=>(M.vals c).length) (M.cls x) (M.vals (M.cls y)).length (L.erase (M.cls y)) (h1.erase _)
  have b:=sum_erase (fun c=>(M.vals c).length) _ L (h2 y hy);have e:(fun i=>((M.unite (M.cls x) (M.cls y)).vals i).length)=fun i=>if i=M.cls x then (M.vals (M.cls x)).length + (M.vals (M.cls y)).length else (M.vals i).length:=by
   funext i
   simp only [Mg.unite]
   split <;>simp
  rw [e,a]
  split <;>omega
structure Burnt (f f':Int):Prop where
 less:f'<=f - 1
 out:f<=1->f'=f - 1
 low:1<=f-> -(4398046511104 * (f - max f' 0))<=f'
structure Burning (f:Int) (i:Nat) (fi:Int):Prop where
 less:fi<=f - 1
 low: -(4398046511104 * (f - 1 - max fi 0)) - i<=fi
theorem Burning.start {f:Int}(hf:1<=f):Burning f 0 (f - 1):=⟨by omega,by omega⟩
theorem Burning.step {f:Int}{i:Nat}{fi fj:Int}(hf:1<=f)(h:Burning f i fi)(k:Burnt fi fj):Burning f (i + 1) fj:=by
 obtain ⟨a,b⟩:=h;obtain ⟨c,d,e⟩:=k;refine ⟨by omega,?_⟩;by_cases h1:1<=fi
 ·have:=e h1;omega
 ·have:=d (by omega);omega
theorem Burning.mono {f:Int}{i j:Nat}{fi:Int}(h:Burning f i fi)(hij:i<=j):Burning f j fi:=⟨h.less,by have:=h.low;omega⟩
theorem Burning.done {f:Int}{i:Nat}{fi:Int}(hf:2<=f)(h:Burning f i fi)(hi:i<=4398046511104):Burnt f fi:=⟨h.less,fun h=>by omega,fun _=>by have:=h.low;omega⟩
theorem Burnt.range {f f':Int}(h:Burnt f f')(h1:f<=20000)(h0:0<=f): -88000000000000000<=f':=by
 obtain ⟨a,b,c⟩:=h;by_cases h1:1<=f
 ·have:=c h1;omega
 ·have:=b (by omega);omega
end Uni
end
