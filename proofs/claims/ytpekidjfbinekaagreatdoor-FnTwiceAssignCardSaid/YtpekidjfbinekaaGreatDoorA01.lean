/- P4, P5, P8 -/
import Derived.Test.YtpekidjfbinekaaGreatDoorA00
set_option maxRecDepth 100000
set_option maxHeartbeats 60000000
set_option linter.all false
section
namespace Uni
structure GoodL (nd:Nat) (ar:Nat->Nat) (f:Lab) (ts:List Tm):Prop where
 k10:f.kind<=10
 k2:f.kind≠2
 k0:f.kind=0->ts= []/\f.n < 17
 k1:f.kind=1->f.n < nd/\ts.length=ar f.n
 k3:f.kind=3->ts= []
 one:f.kind=4\/f.kind=5\/f.kind=6\/f.kind=8->ts.length=1
 two:f.kind=7->ts.length=2
 chan:f.kind=8->f.n < 3
 names:f.kind=9->f.names.length=ts.length/\f.names.Nodup/\ ∀n∈f.names,∃c:UInt8,n= [c]/\65<=c/\c<=90
 func:f.kind=10->f.cnt<=ts.length/\(f.vari=true->0 < f.cnt/\ ∃g us,ts[f.cnt - 1]?=some (.node g us)/\g.kind=5)
inductive Good (nd:Nat) (ar:Nat->Nat):Tm->Prop
 |var (p:Nat):Good nd ar (.var p)
 |node (f:Lab) (ts:List Tm):GoodL nd ar f ts->(∀t∈ts,Good nd ar t)->Good nd ar (.node f ts)
theorem Good.lab {nd:Nat}{ar:Nat->Nat}{f:Lab}{ts:List Tm}(h:Good nd ar (.node f ts)):GoodL nd ar f ts:=by cases h;assumption
theorem Good.kid {nd:Nat}{ar:Nat->Nat}{f:Lab}{ts:List Tm}(h:Good nd ar (.node f ts)){t:Tm}(ht:t∈ts):Good nd ar t:=by cases h with | node _ _ _ h=>exact h t ht
theorem GoodL.map {nd:Nat}{ar:Nat->Nat}{f:Lab}{ts:List Tm}(h:GoodL nd ar f ts)(g:Tm->Tm)(hg: ∀l us,l.kind=5-> ∃us',g (.node l us)= .node l us'):GoodL nd ar f (ts.map g):=by
 obtain ⟨h1,h2,h3,h4,h5,h6,h7,h8,h9,h10⟩:=h;refine ⟨h1,h2,fun h=> ?_,fun h=> ?_,fun h=> ?_,fun h=> ?_,fun h=> ?_,h8,fun h=> ?_,fun h=> ?_⟩
 ·obtain ⟨e,e2⟩:=h3 h;subst e;exact ⟨rfl,e2⟩
 ·rw [List.length_map];exact h4 h
 ·have e:=h5 h;subst e;rfl
 ·rw [List.length_map];exact h6 h
 ·rw [List.length_map];exact h7 h
 ·rw [List.length_map];exact h9 h
 ·obtain ⟨a,b⟩:=h10 h
  refine ⟨by rw [List.length_map];exact a,fun hv=> ?_⟩;obtain ⟨c,l,us,d,e⟩:=b hv;obtain ⟨us',hu⟩:=hg l us e;exact ⟨c,l,us',by rw [List.getElem?_map,d,Option.map_some,hu],e⟩
theorem Good.own {nd:Nat}{ar:Nat->Nat}{l:List Tm}(hl: ∀t∈l,Good nd ar t){t:Tm}(h:Good nd ar t):Good nd ar (t.own l):=by
 induction h with
 |var p=>rw [Tm.own_var];exact .var p
 |node f ts hf hts ih=>
  rw [Tm.own_node]
  split
  ·rw [List.getD_eq_getElem?_getD]
   cases hx:l[f.n]? with
   |none=>exact .var 0
   |some u=>exact hl u (List.mem_of_getElem? hx)
  ·refine .node f _ (hf.map _ fun g us hg=>⟨us.map (Tm.own l),by rw [Tm.own_node,if_neg (by omega)]⟩) fun t ht=> ?_
   obtain ⟨u,hu,rfl⟩:=List.mem_map.1 ht;exact ih u hu
theorem Good.sub {nd:Nat}{ar:Nat->Nat}{θ:Nat->Tm}(hl: ∀p,Good nd ar (θ p)){t:Tm}(h:Good nd ar t):Good nd ar (t.sub θ):=by
 induction h with
 |var p=>rw [Tm.sub_var];exact hl p
 |node f ts hf hts ih=>
  rw [Tm.sub_node];refine .node f _ (hf.map _ fun g us hg=>⟨us.map (Tm.sub θ),Tm.sub_node _ _ _⟩) fun t ht=> ?_
  obtain ⟨u,hu,rfl⟩:=List.mem_map.1 ht;exact ih u hu
def xF (nd:Nat)(ar:Nat->Nat)(D:zE):Prop:= ∀i,Good nd ar (D i)
theorem Good.und {nd:Nat}{ar:Nat->Nat}{D:zE}(hD:xF nd ar D){t:Tm}(h:Good nd ar t):Good nd ar (und D t):=by
 cases t with
 |var p=>exact h
 |node f ts=>
  by_cases hf:f.kind=1
  ·rw [show Uni.und D (.node f ts)=(D f.n).own ts by simp [Uni.und,hf]]
   exact Good.own (fun t ht=>h.kid ht) (hD f.n)
  ·rw [xO f ts hf];exact h
def wJ (nd:Nat)(ar:Nat->Nat)(s:St):Prop:= ∀P t,s.v P=some t->Good nd ar t
theorem wJ.putAt {nd:Nat}{ar:Nat->Nat}{s:St}(h:wJ nd ar s){P:Nat}{t:Tm}(ht:Good nd ar t):wJ nd ar (s.putAt P t):=by
 intro Q u hu;simp only [St.putAt] at hu
 split at hu
 ·cases hu;exact ht
 ·exact h Q u hu
theorem wJ.join {nd:Nat}{ar:Nat->Nat}{s:St}(h:wJ nd ar s)(P Q:Nat):wJ nd ar (s.join P Q):=by
 intro R u hu;simp only [St.join] at hu
 split at hu
 ·cases hv:s.v P with
  |some t=>rw [hv] at hu;cases hu;exact h P _ hv
  |none=>rw [hv] at hu;exact h Q u hu
 ·exact h R u hu
def GoodStep (nd:Nat)(ar:Nat->Nat)(step:St->Tm->Tm->Mode->Option Res):Prop:=
 ∀s x y m s',Good nd ar x->Good nd ar y->wJ nd ar s->step s x y m=some (.ok s')->wJ nd ar s'
theorem seqS_good {nd:Nat}{ar:Nat->Nat}{step:St->Tm->Tm->Option Res}(h: ∀s x y s',Good nd ar x->Good nd ar y->wJ nd ar s->step s x y=some (.ok s')->wJ nd ar s'):
 ∀(xs ys:List Tm) (s s':St),(∀x∈xs,Good nd ar x)->(∀y∈ys,Good nd ar y)->wJ nd ar s->seqS step s xs ys=some (.ok s')->wJ nd ar s':=by
 intro xs
 induction xs with
 |nil=>intro ys s s' _ _ hs e;simp [seqS] at e;subst e;exact hs
 |cons x xs ih=>
  intro ys s s' hx hy hs e
  cases ys with
  |nil=>simp [seqS] at e;subst e;exact hs
  |cons y ys=>
   rw [seqS] at e
   split at e
   ·rename_i s1 h1
    exact ih ys s1 s' (fun a ha=>hx a (by simp [ha])) (fun a ha=>hy a (by simp [ha])) (h s x y s1 (hx x (by simp)) (hy y (by simp)) hs h1) e
   ·rename_i h1
    exact absurd e (h1 s')
theorem unifyS_good {nd:Nat}{ar:Nat->Nat}{D:zE}(hD:xF nd ar D): ∀N,GoodStep nd ar (zI D N):=by
 intro N
 induction N with
 |zero=>intro s x y m s' _ _ _ e;cases e
 |succ N ih=>
  have mt: ∀(s:St) (P:Nat) (t:Tm) (m:Mode) (s':St),Good nd ar t->wJ nd ar s->zX N (zI D N) s P t m=some (.ok s')->wJ nd ar s':=by
   intro s P t m s' ht hs e;unfold zX at e
   cases hv:s.v P with
   |none=>
    rw [hv] at e;dsimp only at e
    split at e
    ·cases e;exact hs.putAt ht
    ·cases e
   |some k=>
    rw [hv] at e;dsimp only at e
    split at e
    ·rename_i s1 h1
     have g1:=ih s k t m s1 (hs P k hv) ht hs h1
     split at e
     ·cases e
     split at e
     ·cases e;exact g1
     ·split at e
      ·cases e;exact g1.putAt ht
      ·cases e
    ·rename_i h1
     exact absurd e (h1 s')
  intro s x y m s' hx hy hs e
  cases x with
  |var p=>
   cases y with
   |var q=>
    rw [zI,yU] at e
    split at e
    ·cases e;exact hs
    ·cases hp:s.v (s.j p) with
     |none=>
      cases hq:s.v (s.j q) with
      |none=>rw [hp,hq] at e;cases e;exact hs.join _ _
      |some k=>
       rw [hp,hq] at e;dsimp only at e
       split at e
       ·cases e;exact hs.join _ _
       ·cases e
     |some k=>
      cases hq:s.v (s.j q) with
      |none=>
       rw [hp,hq] at e;dsimp only at e
       split at e
       ·cases e;exact hs.join _ _
       ·cases e
      |some k'=>rw [hp,hq] at e;exact ih _ _ _ _ _ (hs _ _ hp) (hs _ _ hq) hs e
   |node g bs=>rw [zI] at e;exact mt s _ _ m s' hy hs e
  |node f as'=>
   cases y with
   |var q=>rw [zI] at e;exact mt s _ _ m s' hx hs e
   |node g bs=>
    rw [zI,yF] at e
    split at e
    ·cases e
    split at e
    ·exact ih _ _ _ _ _ (hx.und hD) hy hs e
    split at e
    ·exact ih _ _ _ _ _ hx (hy.und hD) hs e
    split at e
    ·cases e
    split at e
    ·cases e
    split at e
    ·exact seqS_good (fun s x y s'=>ih s x y (inner m) s') as' bs s s' (fun a ha=>hx.kid ha) (fun a ha=>hy.kid ha) hs e
    ·cases e
end Uni
end
section
namespace Uni
inductive AllL (P:Lab->List Tm->Prop):Tm->Prop
 |var (p:Nat):AllL P (.var p)
 |node (f:Lab) (ts:List Tm):P f ts->(∀t∈ts,AllL P t)->AllL P (.node f ts)
theorem AllL.lab {P:Lab->List Tm->Prop}{f:Lab}{ts:List Tm}(h:AllL P (.node f ts)):P f ts:=by cases h;assumption
theorem AllL.kid {P:Lab->List Tm->Prop}{f:Lab}{ts:List Tm}(h:AllL P (.node f ts)){t:Tm}(ht:t∈ts):AllL P t:=by cases h with | node _ _ _ h=>exact h t ht
structure Norm (f:Lab):Prop where
 n:f.kind≠0->f.kind≠1->f.kind≠3->f.kind≠6->f.kind≠8->f.n=0
 c:f.kind≠10->f.cnt=0/\f.vari=false
 names:f.kind≠9->f.names= []
def FitL (nd:Nat)(ar:Nat->Nat)(f:Lab)(ts:List Tm):Prop:=GoodL nd ar f ts/\Norm f/\f.kind≠3
def wM (nd:Nat)(ar:Nat->Nat)(f:Lab)(ts:List Tm):Prop:=GoodL nd ar f ts/\Norm f
abbrev Fit (nd:Nat)(ar:Nat->Nat):Tm->Prop:=AllL (FitL nd ar)
theorem Fit.good {nd:Nat}{ar:Nat->Nat}{t:Tm}(h:Fit nd ar t):Good nd ar t:=by
 induction h with
 |var p=>exact .var p
 |node f ts h _ ih=>exact .node f ts h.1 ih
theorem Fit.own {nd:Nat}{ar:Nat->Nat}{l:List Tm}(hl: ∀t∈l,Fit nd ar t){t:Tm}(h:AllL (wM nd ar) t):Fit nd ar (t.own l):=by
 induction h with
 |var p=>rw [Tm.own_var];exact .var p
 |node f ts hf hts ih=>
  rw [Tm.own_node]
  split
  ·rw [List.getD_eq_getElem?_getD]
   cases hx:l[f.n]? with
   |none=>exact .var 0
   |some u=>exact hl u (List.mem_of_getElem? hx)
  ·rename_i h3
   refine .node f _ ⟨hf.1.map _ fun g us hg=>⟨us.map (Tm.own l),by rw [Tm.own_node,if_neg (by omega)]⟩,hf.2,h3⟩ fun t ht=> ?_
   obtain ⟨u,hu,rfl⟩:=List.mem_map.1 ht;exact ih u hu
theorem Fit.und {nd:Nat}{ar:Nat->Nat}{D:zE}(hD: ∀i,AllL (wM nd ar) (D i)){t:Tm}(h:Fit nd ar t):Fit nd ar (und D t):=by
 cases t with
 |var p=>exact h
 |node f ts=>
  by_cases hf:f.kind=1
  ·rw [show Uni.und D (.node f ts)=(D f.n).own ts by simp [Uni.und,hf]]
   exact Fit.own (fun t ht=>h.kid ht) (hD f.n)
  ·rw [xO f ts hf];exact h
def yS (Q:Tm->Prop)(s:St):Prop:= ∀P t,s.v P=some t->Q t
theorem yS.putAt {Q:Tm->Prop}{s:St}(h:yS Q s){P:Nat}{t:Tm}(ht:Q t):yS Q (s.putAt P t):=by
 intro R u hu;simp only [St.putAt] at hu
 split at hu
 ·cases hu;exact ht
 ·exact h R u hu
theorem yS.join {Q:Tm->Prop}{s:St}(h:yS Q s)(P P':Nat):yS Q (s.join P P'):=by
 intro R u hu;simp only [St.join] at hu
 split at hu
 ·cases hv:s.v P with
  |some t=>rw [hv] at hu;cases hu;exact h P _ hv
  |none=>rw [hv] at hu;exact h P' u hu
 ·exact h R u hu
theorem yS.init (Q:Tm->Prop):yS Q St.init:=fun _ _ h=>by simp [St.init] at h
theorem seqS_keeps {Q:Tm->Prop}{step:St->Tm->Tm->Option Res}(h: ∀s x y s',Q x->Q y->yS Q s->step s x y=some (.ok s')->yS Q s'):
 ∀(xs ys:List Tm) (s s':St),(∀x∈xs,Q x)->(∀y∈ys,Q y)->yS Q s->seqS step s xs ys=some (.ok s')->yS Q s':=by
 intro xs
 induction xs with
 |nil=>intro ys s s' _ _ hs e;simp [seqS] at e;subst e;exact hs
 |cons x xs ih=>
  intro ys s s' hx hy hs e
  cases ys with
  |nil=>simp [seqS] at e;subst e;exact hs
  |cons y ys=>
   rw [seqS] at e
   split at e
   ·rename_i s1 h1
    exact ih ys s1 s' (fun a ha=>hx a (by simp [ha])) (fun a ha=>hy a (by simp [ha])) (h s x y s1 (hx x (by simp)) (hy y (by simp)) hs h1) e
   ·rename_i h1
    exact absurd e (h1 s')
theorem unifyS_keeps {Q:Tm->Prop}{D:zE}(hk: ∀f ts t,Q (.node f ts)->t∈ts->Q t)(hu: ∀t,Q t->Q (und D t)):
 ∀N s x y m s',Q x->Q y->yS Q s->zI D N s x y m=some (.ok s')->yS Q s':=by
 intro N
 induction N with
 |zero=>intro s x y m s' _ _ _ e;cases e
 |succ N ih=>
  have mt: ∀(s:St) (P:Nat) (t:Tm) (m:Mode) (s':St),Q t->yS Q s->zX N (zI D N) s P t m=some (.ok s')->yS Q s':=by
   intro s P t m s' ht hs e;unfold zX at e
   cases hv:s.v P with
   |none=>
    rw [hv] at e;dsimp only at e
    split at e
    ·cases e;exact hs.putAt ht
    ·cases e
   |some k=>
    rw [hv] at e;dsimp only at e
    split at e
    ·rename_i s1 h1
     have g1:=ih s k t m s1 (hs P k hv) ht hs h1
     split at e
     ·cases e
     split at e
     ·cases e;exact g1
     ·split at e
      ·cases e;exact g1.putAt ht
      ·cases e
    ·rename_i h1
     exact absurd e (h1 s')
  intro s x y m s' hx hy hs e
  cases x with
  |var p=>
   cases y with
   |var q=>
    rw [zI,yU] at e
    split at e
    ·cases e;exact hs
    ·cases hp:s.v (s.j p) with
     |none=>
      cases hq:s.v (s.j q) with
      |none=>rw [hp,hq] at e;cases e;exact hs.join _ _
      |some k=>
       rw [hp,hq] at e;dsimp only at e
       split at e
       ·cases e;exact hs.join _ _
       ·cases e
     |some k=>
      cases hq:s.v (s.j q) with
      |none=>
       rw [hp,hq] at e;dsimp only at e
       split at e
       ·cases e;exact hs.join _ _
       ·cases e
      |some k'=>rw [hp,hq] at e;exact ih _ _ _ _ _ (hs _ _ hp) (hs _ _ hq) hs e
   |node g bs=>rw [zI] at e;exact mt s _ _ m s' hy hs e
  |node f as'=>
   cases y with
   |var q=>rw [zI] at e;exact mt s _ _ m s' hx hs e
   |node g bs=>
    rw [zI,yF] at e
    split at e
    ·cases e
    split at e
    ·exact ih _ _ _ _ _ (hu _ hx) hy hs e
    split at e
    ·exact ih _ _ _ _ _ hx (hu _ hy) hs e
    split at e
    ·cases e
    split at e
    ·cases e
    split at e
    ·exact seqS_keeps (fun s x y s'=>ih s x y (inner m) s') as' bs s s' (fun a ha=>hk _ _ a hx ha) (fun a ha=>hk _ _ a hy ha) hs e
    ·cases e
theorem seqS_refl {step:St->Tm->Tm->Option Res}: ∀(as:List Tm)(s:St),(∀s,∀a∈as,∀r,step s a a=some r->r= .ok s)-> ∀r,seqS step s as as=some r->r= .ok s:=by
 intro as
 induction as with
 |nil=>intro s _ r e;simp [seqS] at e;exact e.symm
 |cons a as ih=>
  intro s h r e;rw [seqS] at e
  split at e
  ·rename_i s' h1
   have:=h s a (by simp) _ h1;cases this;exact ih s (fun s a ha=>h s a (by simp [ha])) r e
  ·exact h s a (by simp) r e
theorem directed_self (D:zE)(x:Tm):zT D x x=false:=by
 unfold zT;cases wH D x <;>simp
theorem unifyS_refl (D:zE): ∀N s x m r,zI D N s x x m=some r->r= .ok s:=by
 intro N
 induction N with
 |zero=>intro s x m r e;cases e
 |succ N ih=>
  intro s x m r e
  cases x with
  |var p=>rw [zI,yU,if_pos rfl] at e;cases e;rfl
  |node f as=>
   rw [zI,yF,directed_self] at e;rw [if_neg (by simp),if_neg (by omega),if_neg (by omega),if_neg (by omega),if_neg (by simp),if_pos ⟨rfl,rfl⟩] at e;exact seqS_refl as s (fun s a _ r e=>ih s a _ r e) r e
theorem seqN_refl {step:St->Tm->Tm->Option (Option St)}: ∀(as:List Tm)(s:St),(∀s,∀a∈as,∀q,step s a a=some q->q=some s)-> ∀q,seqN step s as as=some q->q=some s:=by
 intro as
 induction as with
 |nil=>intro s _ q e;simp [seqN] at e;exact e.symm
 |cons a as ih=>
  intro s h q e;rw [seqN] at e
  split at e
  ·rename_i s' h1
   have:=h s a (by simp) _ h1;cases this;exact ih s (fun s a ha=>h s a (by simp [ha])) q e
  ·exact h s a (by simp) q e
theorem seqF_same {step:St->Tm->Tm->Option (Option St)}: ∀(as bs:List Tm)(ns:List (List UInt8))(s:St),seqF step s ns ns as bs=seqN step s as bs:=by
 intro as
 induction as with
 |nil=>intro bs ns s;simp [seqF,seqN]
 |cons a as ih=>
  intro bs ns s
  cases bs with
  |nil=>simp [seqF,seqN]
  |cons b bs=>
   rw [seqF,seqN,if_neg (by simp)]
   split
   ·rename_i s' h1;exact ih bs ns.tail s'
   ·rfl
theorem tupN_refl {step:Option (St->Tm->Tm->Option (Option St))}(s:St)(n:Nat)(as:List Tm)(h: ∀st,step=some st-> ∀s,∀a∈as,∀q,st s a a=some q->q=some s): ∀q,tupN step s n n as as=some q->q=some s:=by
 intro q e;unfold tupN at e
 cases step with
 |none=>
  dsimp only at e
  split at e
  ·cases e;rfl
  ·cases e
 |some st=>
  dsimp only at e;rw [if_neg (by simp),if_neg (by simp)] at e;exact seqN_refl as s (h st rfl) q e
theorem nifyNode_refl {step:St->Tm->Tm->Mode->Option (Option St)}{zQ:Option (St->Tm->Tm->Mode->Option (Option St))}(s:St)(f:Lab)(as:List Tm)(m:Mode)
 (h1: ∀s a m q,step s a a m=some q->q=some s) (h2: ∀st,zQ=some st-> ∀s a m q,st s a a m=some q->q=some s): ∀q,zK step zQ s f as f as m=some q->q=some s:=by
 intro q e;unfold zK at e;rw [if_neg (by simp)] at e
 split at e
 ·rw [if_pos rfl] at e;cases e;rfl
 split at e
 ·rw [if_neg (by simp)] at e
  split at e
  ·rename_i s' e1
   have:=seqN_refl as s (fun s a _ q e=>h1 s a m q e) _ e1;cases this;rw [if_pos rfl] at e;cases e;rfl
  ·exact seqN_refl as s (fun s a _ q e=>h1 s a m q e) _ e
 split at e
 ·rw [if_neg (by simp)] at e
  exact seqN_refl as s (fun s a _ q e=>h1 s a _ q e) _ e
 split at e
 ·rw [if_neg (by simp)] at e
  exact seqN_refl as s (fun s a _ q e=>h1 s a _ q e) _ e
 split at e
 ·rw [if_neg (by simp),seqF_same] at e
  exact seqN_refl as s (fun s a _ q e=>h1 s a _ q e) _ e
 split at e
 ·rw [if_neg (by simp)] at e
  have H: ∀st,(zQ.map fun st s a b=>st s a b (inner m))=some st-> ∀(l:List Tm) s,∀a∈l,∀q,st s a a=some q->q=some s:=by
   intro st hst l s a _ q e
   cases zQ with
   |none=>cases hst
   |some st2=>cases hst;exact h2 st2 rfl s a _ q e
  split at e
  ·rename_i s' e1
   have:=tupN_refl s f.cnt _ (fun st hst=>H st hst _) _ e1;cases this
   exact tupN_refl s 0 _ (fun st hst=>H st hst _) _ e
  ·exact tupN_refl s f.cnt _ (fun st hst=>H st hst _) _ e
 ·exact seqN_refl as s (fun s a _ q e=>h1 s a _ q e) _ e
def zQ (D:zE):Nat->Option (St->Tm->Tm->Mode->Option (Option St))
 |0=>none
 |k' + 1=>some (zJ D k')
theorem xT {D:zE}(k:Nat)(s:St)(f:Lab)(as:List Tm)(g:Lab)(bs:List Tm)(m:Mode):
 zJ D (k + 1) s (.node f as) (.node g bs) m=if f.kind=1 then xD D (zJ D k) (zQ D k) s g bs f as m else xD D (zJ D k) (zQ D k) s f as g bs m:=by
 cases k <;>simp only [zJ,zQ]
theorem nifyT_refl (D:zE): ∀k s x m q,zJ D k s x x m=some q->q=some s:=by
 intro k
 induction k using Nat.strongRecOn with
 |ind k ih=>
  intro s x m q e
  cases k with
  |zero=>cases e
  |succ k=>
   cases x with
   |var p=>rw [zJ,yW,if_pos rfl] at e;cases e;rfl
   |node f as=>
    rw [xT] at e;have hn:zK (zJ D k) (zQ D k) s f as f as m=some q:=by
     revert e;unfold xD
     split <;>(rw [if_neg (by omega)];exact id)
    refine nifyNode_refl s f as m (fun s a m q e=>ih k (by omega) s a m q e) (fun st hst s a m q e=> ?_) q hn
    cases k with
    |zero=>cases hst
    |succ k'=>cases hst;exact ih k' (by omega) s a m q e
theorem seqN_flip {step:St->Tm->Tm->Option (Option St)}: ∀(as bs:List Tm)(s:St),seqN step s as bs=seqN (fun s a b=>step s b a) s bs as:=by
 intro as
 induction as with
 |nil=>intro bs s;cases bs <;>simp [seqN]
 |cons a as ih=>
  intro bs s
  cases bs with
  |nil=>simp [seqN]
  |cons b bs=>
   rw [seqN,seqN]
   cases h:step s a b with
   |none=>rfl
   |some o=>cases o with
    |none=>rfl
    |some s'=>exact ih bs s'
theorem seqF_flip {step:St->Tm->Tm->Option (Option St)}: ∀(as bs:List Tm)(ns ms:List (List UInt8))(s:St),seqF step s ns ms as bs=seqF (fun s a b=>step s b a) s ms ns bs as:=by
 intro as
 induction as with
 |nil=>intro bs ns ms s;cases bs <;>simp [seqF]
 |cons a as ih=>
  intro bs ns ms s
  cases bs with
  |nil=>simp [seqF]
  |cons b bs=>
   rw [seqF,seqF];by_cases hn:ns.headD []=ms.headD []
   ·rw [if_neg (by simp only [ne_eq,hn,not_true_eq_false,not_false_eq_true]),if_neg (by simp only [ne_eq,hn,not_true_eq_false,not_false_eq_true])]
    cases h:step s a b with
    |none=>rfl
    |some o=>cases o with
     |none=>rfl
     |some s'=>exact ih bs ns.tail ms.tail s'
   ·rw [if_pos hn,if_pos (Ne.symm hn)]
theorem tupN_flip {step:Option (St->Tm->Tm->Option (Option St))}(s:St)(n o:Nat)(as bs:List Tm):tupN step s n o as bs=tupN (step.map fun st s a b=>st s b a) s o n bs as:=by
 unfold tupN
 cases step with
 |none=>simp only [Option.map_none,and_comm]
 |some st=>
  simp only [Option.map_some,ne_comm (a:=n),ne_comm (a:=as.length)];rw [seqN_flip as bs s]
theorem yD {p q:Prop} [Decidable p] [Decidable q] (h:p↔q){α:Type}{a b c d:α}(h1:a=c)(h2:b=d):(if p then a else b)=(if q then c else d):=by
 subst h1 h2;by_cases hp:p
 ·rw [if_pos hp,if_pos (h.1 hp)]
 ·rw [if_neg hp,if_neg fun hq=>hp (h.2 hq)]
theorem nifyNode_flip (step:St->Tm->Tm->Mode->Option (Option St))(zQ:Option (St->Tm->Tm->Mode->Option (Option St)))(s:St)(f:Lab)(as:List Tm)(g:Lab)(bs:List Tm)(m:Mode):
 zK step zQ s f as g bs m=zK (fun s a b m=>step s b a m) (zQ.map fun st s a b m=>st s b a m) s g bs f as m:=by
 unfold zK;by_cases hk:f.kind=g.kind
 ·rw [if_neg (show ¬f.kind≠g.kind by simp [hk]),if_neg (show ¬g.kind≠f.kind by simp [hk])]
  refine yD (by rw [hk]) ?_ (yD (by rw [hk]) ?_ (yD (by rw [hk]) ?_ (yD (by rw [hk]) ?_ (yD (by rw [hk]) ?_ (yD (by rw [hk]) ?_ ?_)))))
  ·exact congrArg some (yD eq_comm rfl rfl)
  ·refine yD ne_comm rfl ?_
   rw [seqN_flip as bs s]
   cases seqN (fun s a b=>step s b a m) s bs as with
   |none=>rfl
   |some o=>cases o with
    |none=>rfl
    |some s'=>exact congrArg some (yD eq_comm rfl rfl)
  ·exact yD ne_comm rfl (seqN_flip as bs s)
  ·exact yD (and_congr Iff.rfl ne_comm) rfl (seqN_flip as bs s)
  ·exact yD ne_comm rfl (seqF_flip as bs _ _ s)
  ·refine yD ne_comm rfl ?_
   have h: ∀(s:St) (n o:Nat) (as bs:List Tm),tupN (zQ.map fun st s a b=>st s a b (inner m)) s n o as bs=tupN ((zQ.map fun st s a b m=>st s b a m).map fun st s a b=>st s a b (inner m)) s o n bs as:=by
    intro s n o as bs;rw [tupN_flip];cases zQ <;>rfl
   rw [h s f.cnt g.cnt]
   cases tupN ((zQ.map fun st s a b m=>st s b a m).map fun st s a b=>st s a b (inner m)) s g.cnt f.cnt (bs.take g.cnt) (as.take f.cnt) with
   |none=>rfl
   |some o=>cases o with
    |none=>rfl
    |some s'=>exact h s' 0 0 _ _
  ·exact seqN_flip as bs s
 ·rw [if_pos hk,if_pos (show g.kind≠f.kind from Ne.symm hk)]
end Uni
end
section
namespace Uni
def AgreeR (R:St->St->Prop):Res->Option St->Prop
 |.silent,_=>True
 |.fail,q=>q=none
 |.ok s',q=> ∃s'',q=some s''/\R s' s''
abbrev yM:Res->Option St->Prop:=AgreeR Eq
theorem yM.ok_ {s:St}:yM (.ok s) (some s):=⟨s,rfl,rfl⟩
theorem yM.get {s:St}{q:Option St}(h:yM (.ok s) q):q=some s:=by obtain ⟨s'',h1,rfl⟩:=h;exact h1
theorem seq_sim {I:St->Prop}{stepS:St->Tm->Tm->Option Res}{stepN:St->Tm->Tm->Option (Option St)}: ∀(as bs:List Tm)(s:St),
 (∀(i:Nat) (a b:Tm) (s:St),as[i]?=some a->bs[i]?=some b->I s-> ∀r,stepS s a b=some r->(∀q,stepN s a b=some q->yM r q)/\ ∀s',r= .ok s'->I s')->
 I s-> ∀r,seqS stepS s as bs=some r->(∀q,seqN stepN s as bs=some q->yM r q)/\ ∀s',r= .ok s'->I s':=by
 intro as
 induction as with
 |nil=>
  intro bs s _ hs r e;simp [seqS] at e;subst e;exact ⟨fun q e=>by simp [seqN] at e;subst e;exact .ok_,fun s' e=>by cases e;exact hs⟩
 |cons a as ih=>
  intro bs s h hs r e
  cases bs with
  |nil=>
   simp [seqS] at e;subst e;exact ⟨fun q e=>by simp [seqN] at e;subst e;exact .ok_,fun s' e=>by cases e;exact hs⟩
  |cons b bs=>
   rw [seqS] at e
   cases h1:stepS s a b with
   |none=>rw [h1] at e;cases e
   |some r1=>
    obtain ⟨k1,k2⟩:=h 0 a b s rfl rfl hs r1 h1;rw [h1] at e
    cases r1 with
    |silent=>cases e;exact ⟨fun _ _=>trivial,fun _ e=>by cases e⟩
    |fail=>
     cases e
     refine ⟨fun q e=> ?_,fun _ e=>by cases e⟩;rw [seqN] at e
     cases h2:stepN s a b with
     |none=>rw [h2] at e;cases e
     |some q1=>
      have:=k1 q1 h2;have:q1=none:=this;subst this;rw [h2] at e;cases e;rfl
    |ok s1=>
     have hr:=ih bs s1 (fun i a b s ha hb=>h (i + 1) a b s (by simpa using ha) (by simpa using hb)) (k2 s1 rfl) r e;refine ⟨fun q e=> ?_,hr.2⟩;rw [seqN] at e
     cases h2:stepN s a b with
     |none=>rw [h2] at e;cases e
     |some q1=>
      have:=(k1 q1 h2).get;subst this;rw [h2] at e;exact hr.1 q e
theorem seqS_append {step:St->Tm->Tm->Option Res}: ∀(as bs as' bs':List Tm)(s:St),as.length=bs.length->seqS step s (as ++ as') (bs ++ bs')=match seqS step s as bs with
 |some (.ok s')=>seqS step s' as' bs'
 |r=>r:=by
 intro as
 induction as with
 |nil=>intro bs as' bs' s h;cases bs with | nil=>simp [seqS] | cons b bs=>simp at h
 |cons a as ih=>
  intro bs as' bs' s h
  cases bs with
  |nil=>simp at h
  |cons b bs=>
   rw [List.cons_append,List.cons_append,seqS,seqS]
   cases h1:step s a b with
   |none=>rfl
   |some r=>cases r with
    |silent=>rfl
    |fail=>rfl
    |ok s1=>exact ih bs as' bs' s1 (by simpa using h)
theorem seqF_other {step:St->Tm->Tm->Option (Option St)}: ∀(as bs:List Tm)(ns ms:List (List UInt8))(s:St),as.length=bs.length->ns.length=as.length->ms.length=as.length->ns≠ms->
 ∀q,seqF step s ns ms as bs=some q->q=none:=by
 intro as
 induction as with
 |nil=>intro bs ns ms s h h1 h2 hne;exact absurd ((List.eq_nil_of_length_eq_zero h1).trans (List.eq_nil_of_length_eq_zero h2).symm) hne
 |cons a as ih=>
  intro bs ns ms s h h1 h2 hne q e
  cases bs with
  |nil=>simp at h
  |cons b bs=>
   cases ns with
   |nil=>simp at h1
   |cons n ns=>
    cases ms with
    |nil=>simp at h2
    |cons m ms=>
     rw [seqF] at e;by_cases hnm:n=m
     ·subst hnm
      rw [if_neg (by simp)] at e
      cases h3:step s a b with
      |none=>rw [h3] at e;cases e
      |some o=>
       rw [h3] at e
       cases o with
       |none=>cases e;rfl
       |some s'=>exact ih bs ns ms s' (by simpa using h) (by simpa using h1) (by simpa using h2) (fun h=>hne (by rw [h])) q e
     ·rw [if_pos (by simpa using hnm)] at e;cases e;rfl
theorem lab_eq {f g:Lab}(h1:f.kind=g.kind)(h2:f.n=g.n)(h3:f.cnt=g.cnt)(h4:f.vari=g.vari)(h5:f.names=g.names):f=g:=by
 cases f;cases g;simp_all
theorem node_sim {nd:Nat}{ar:Nat->Nat}{I:St->Prop}{stepS:St->Tm->Tm->Option Res}{step:St->Tm->Tm->Mode->Option (Option St)}{zQ:Option (St->Tm->Tm->Mode->Option (Option St))}
 (m:Mode) (s:St) (f:Lab) (as:List Tm) (g:Lab) (bs:List Tm) (hf:FitL nd ar f as) (hg:FitL nd ar g bs) (hdir:m≠ .exact->f.kind=8->g.kind=8->f.n=g.n)
 (h1: ∀(i:Nat) (a b:Tm) (s:St),as[i]?=some a->bs[i]?=some b->I s-> ∀r,stepS s a b=some r->(∀q,step s a b (inner m)=some q->yM r q)/\ ∀s',r= .ok s'->I s')
 (h1':f.kind=1->f=g->as.length=bs.length-> ∀(i:Nat) (a b:Tm) (s:St),as[i]?=some a->bs[i]?=some b->I s-> ∀r,stepS s a b=some r-> ∀q,step s a b m=some q->yM r q)
 (h2: ∀st,zQ=some st-> ∀(i:Nat) (a b:Tm) (s:St),as[i]?=some a->bs[i]?=some b->I s-> ∀r,stepS s a b=some r-> ∀q,st s a b (inner m)=some q->yM r q)
 (hs:I s) (r:Res) (e:(if f=g/\as.length=bs.length then seqS stepS s as bs else some .fail)=some r) (q:Option St) (e':zK step zQ s f as g bs m=some q):yM r q:=by
 obtain ⟨gf,nf,kf⟩:=hf;obtain ⟨gg,ng,kg⟩:=hg;unfold zK at e';by_cases hk:f.kind=g.kind
 rotate_left
 ·rw [if_neg (fun h=>hk (by rw [h.1]))] at e
  rw [if_pos hk] at e';cases e;cases e';rfl
 rw [if_neg (by simp [hk])] at e';have base: ∀r,seqS stepS s as bs=some r-> ∀q,seqN (fun s a b=>step s a b (inner m)) s as bs=some q->yM r q:=fun r e q e'=>
  (seq_sim (I:=I) as bs s h1 hs r e).1 q e'
 by_cases h0:f.kind=0
 ·rw [if_pos h0] at e'
  have ea:=(gf.k0 h0).1;have eb:=(gg.k0 (by omega)).1;subst ea eb;by_cases hn:f.n=g.n
  ·have hfg:f=g:=lab_eq hk hn (by rw [(nf.c (by omega)).1,(ng.c (by omega)).1]) (by rw [(nf.c (by omega)).2,(ng.c (by omega)).2]) (by rw [nf.names (by omega),ng.names (by omega)])
   rw [if_pos ⟨hfg,rfl⟩] at e;rw [if_pos hn] at e';simp [seqS] at e;cases e;cases e';exact .ok_
  ·rw [if_neg (fun h=>hn (by rw [h.1]))] at e
   rw [if_neg hn] at e';cases e;cases e';rfl
 rw [if_neg h0] at e';by_cases h_1:f.kind=1
 ·rw [if_pos h_1] at e'
  by_cases hl:as.length=bs.length
  rotate_left
  ·rw [if_neg (fun h=>hl h.2)] at e
   rw [if_pos hl] at e';cases e;cases e';rfl
  rw [if_neg (by simp [hl])] at e';by_cases hn:f.n=g.n
  ·have hfg:f=g:=lab_eq hk hn (by rw [(nf.c (by omega)).1,(ng.c (by omega)).1]) (by rw [(nf.c (by omega)).2,(ng.c (by omega)).2]) (by rw [nf.names (by omega),ng.names (by omega)])
   rw [if_pos ⟨hfg,hl⟩] at e;have B:=(seq_sim (I:=I) (stepN:=fun s a b=>step s a b m) as bs s (fun i a b s ha hb hs r hr=>⟨fun q hq=>h1' h_1 hfg hl i a b s ha hb hs r hr q hq,(h1 i a b s ha hb hs r hr).2⟩) hs r e).1
   cases h3:seqN (fun s a b=>step s a b m) s as bs with
   |none=>rw [h3] at e';cases e'
   |some o=>
    rw [h3] at e';have B:=B o h3
    cases o with
    |none=>cases e';exact B
    |some s'=>dsimp only at e';rw [if_pos hn] at e';cases e';exact B
  ·rw [if_neg (fun h=>hn (by rw [h.1]))] at e
   cases e
   cases h3:seqN (fun s a b=>step s a b m) s as bs with
   |none=>rw [h3] at e';cases e'
   |some o=>
    rw [h3] at e'
    cases o with
    |none=>cases e';rfl
    |some s'=>dsimp only at e';rw [if_neg hn] at e';cases e';rfl
 rw [if_neg h_1] at e';by_cases h6:f.kind=6
 ·rw [if_pos h6] at e'
  have hl:as.length=bs.length:=by rw [gf.one (by omega),gg.one (by omega)]
  by_cases hn:f.n=g.n
  ·have hfg:f=g:=lab_eq hk hn (by rw [(nf.c (by omega)).1,(ng.c (by omega)).1]) (by rw [(nf.c (by omega)).2,(ng.c (by omega)).2]) (by rw [nf.names (by omega),ng.names (by omega)])
   rw [if_pos ⟨hfg,hl⟩] at e;rw [if_neg (by simp [hn])] at e';exact base r e q e'
  ·rw [if_neg (fun h=>hn (by rw [h.1]))] at e
   rw [if_pos hn] at e';cases e;cases e';rfl
 rw [if_neg h6] at e';by_cases h8:f.kind=8
 ·rw [if_pos h8] at e'
  have hl:as.length=bs.length:=by rw [gf.one (by omega),gg.one (by omega)]
  by_cases hn:f.n=g.n
  ·have hfg:f=g:=lab_eq hk hn (by rw [(nf.c (by omega)).1,(ng.c (by omega)).1]) (by rw [(nf.c (by omega)).2,(ng.c (by omega)).2]) (by rw [nf.names (by omega),ng.names (by omega)])
   rw [if_pos ⟨hfg,hl⟩] at e;rw [if_neg (fun h=>h.2 hn)] at e';exact base r e q e'
  ·rw [if_neg (fun h=>hn (by rw [h.1]))] at e
   have hm:m= .exact:=Classical.byContradiction fun hm=>hn (hdir hm h8 (by omega))
   rw [if_pos ⟨hm,hn⟩] at e';cases e;cases e';rfl
 rw [if_neg h8] at e';by_cases h9:f.kind=9
 ·rw [if_pos h9] at e'
  by_cases hl:as.length=bs.length
  rotate_left
  ·rw [if_neg (fun h=>hl h.2)] at e
   rw [if_pos hl] at e';cases e;cases e';rfl
  rw [if_neg (by simp [hl])] at e';by_cases hn:f.names=g.names
  ·have hfg:f=g:=lab_eq hk (by rw [nf.n (by omega) (by omega) (by omega) (by omega) (by omega),ng.n (by omega) (by omega) (by omega) (by omega) (by omega)]) (by rw [(nf.c (by omega)).1,(ng.c (by omega)).1]) (by rw [(nf.c (by omega)).2,(ng.c (by omega)).2]) hn
   rw [if_pos ⟨hfg,hl⟩] at e;rw [hn,seqF_same] at e';exact base r e q e'
  ·rw [if_neg (fun h=>hn (by rw [h.1]))] at e
   cases e
   exact seqF_other as bs _ _ s hl (gf.names h9).1 (by rw [(gg.names (by omega)).1,hl]) hn q e'
 rw [if_neg h9] at e';by_cases h10:f.kind=10
 ·rw [if_pos h10] at e'
  by_cases hv:f.vari=g.vari
  rotate_left
  ·rw [if_neg (fun h=>hv (by rw [h.1]))] at e
   rw [if_pos hv] at e';cases e;cases e';rfl
  rw [if_neg (by simp [hv])] at e';have cf:=(gf.func h10).1;have cg:=(gg.func (by omega)).1;have lt1:(as.take f.cnt).length=f.cnt:=by rw [List.length_take];omega
  have lt2:(bs.take g.cnt).length=g.cnt:=by rw [List.length_take];omega
  have ld1:(as.drop f.cnt).length=as.length - f.cnt:=List.length_drop ..;have ld2:(bs.drop g.cnt).length=bs.length - g.cnt:=List.length_drop ..;by_cases hc:f.cnt=g.cnt
  rotate_left
  ·rw [if_neg (fun h=>hc (by rw [h.1]))] at e
   cases e
   have hn: ∀q,tupN (zQ.map fun st s a b=>st s a b (inner m)) s f.cnt g.cnt (as.take f.cnt) (bs.take g.cnt)=some q->q=none:=by
    intro q e;unfold tupN at e
    cases zQ with
    |none=>
     simp only [Option.map_none] at e;rw [if_neg (by omega)] at e;cases e
    |some st=>
     simp only [Option.map_some] at e;rw [if_pos hc] at e;cases e;rfl
   split at e'
   ·rename_i s' h3;cases hn _ h3
   ·exact hn q e'
  by_cases hl:as.length=bs.length
  ·have hfg:f=g:=lab_eq hk (by rw [nf.n (by omega) (by omega) (by omega) (by omega) (by omega),ng.n (by omega) (by omega) (by omega) (by omega) (by omega)]) hc hv (by rw [nf.names (by omega),ng.names (by omega)])
   rw [if_pos ⟨hfg,hl⟩] at e;rw [<-hfg] at e';rw [<-hfg] at lt2 ld2;have tk: ∀(i:Nat) (a:Tm) (l:List Tm),(l.take f.cnt)[i]?=some a->l[i]?=some a:=fun i a l h=>getElem?_take h
   have dr: ∀(i:Nat) (a:Tm) (l:List Tm),(l.drop f.cnt)[i]?=some a->l[f.cnt + i]?=some a:=fun i a l h=>by rw [List.getElem?_drop] at h;exact h
   rw [<-List.take_append_drop f.cnt as,<-List.take_append_drop f.cnt bs,seqS_append _ _ _ _ _ (by omega)] at e
   cases zQ with
   |none=>
    simp only [Option.map_none,tupN] at e'
    split at e'
    ·rename_i s' h3
     split at h3
     ·rename_i h4
      cases h3
      split at e'
      ·rename_i h5
       rw [List.eq_nil_of_length_eq_zero h4.1,List.eq_nil_of_length_eq_zero h5.1] at e;simp [seqS] at e;cases e;cases e';exact .ok_
      ·cases e'
     ·cases h3
    ·split at e'
     ·rename_i h3 h4
      exact (h3 s (if_pos h4)).elim
     ·cases e'
   |some st=>
    simp only [Option.map_some,tupN] at e';rw [if_neg (by simp),if_neg (by omega)] at e';have A:=seq_sim (I:=I) (stepS:=stepS) (stepN:=fun s a b=>st s a b (inner m)) (as.take f.cnt) (bs.take f.cnt) s (fun i a b s ha hb hs r hr=>⟨h2 st rfl i a b s (tk i a as ha) (tk i b bs hb) hs r hr,(h1 i a b s (tk i a as ha) (tk i b bs hb) hs r hr).2⟩) hs
    cases h3:seqS stepS s (as.take f.cnt) (bs.take f.cnt) with
    |none=>rw [h3] at e;cases e
    |some r1=>
     obtain ⟨A1,A2⟩:=A r1 h3;rw [h3] at e
     cases h4:seqN (fun s a b=>st s a b (inner m)) s (as.take f.cnt) (bs.take f.cnt) with
     |none=>rw [h4] at e';cases e'
     |some q1=>
      have A1:=A1 q1 h4;rw [h4] at e'
      cases r1 with
      |silent=>cases e;trivial
      |fail=>
       have:q1=none:=A1;subst this;cases e;cases e';rfl
      |ok s1=>
       have:=A1.get;subst this;dsimp only at e e';rw [if_neg (by simp),if_neg (by omega)] at e';exact (seq_sim (I:=I) (stepS:=stepS) (stepN:=fun s a b=>st s a b (inner m)) (as.drop f.cnt) (bs.drop f.cnt) s1 (fun i a b s ha hb hs r hr=>⟨h2 st rfl _ a b s (dr i a as ha) (dr i b bs hb) hs r hr,(h1 _ a b s (dr i a as ha) (dr i b bs hb) hs r hr).2⟩) (A2 s1 rfl) r e).1 q e'
  ·rw [if_neg (fun h=>hl h.2)] at e
   cases e
   have hn: ∀s q,tupN (zQ.map fun st s a b=>st s a b (inner m)) s 0 0 (as.drop f.cnt) (bs.drop g.cnt)=some q->q=none:=by
    intro s q e;unfold tupN at e
    cases zQ with
    |none=>
     simp only [Option.map_none] at e;rw [if_neg (by omega)] at e;cases e
    |some st=>
     simp only [Option.map_some] at e;rw [if_neg (by simp),if_pos (by omega)] at e;cases e;rfl
   split at e'
   ·exact hn _ q e'
   ·rename_i h3
    cases q with
    |none=>rfl
    |some s'=>exact absurd e' (h3 s')
 rw [if_neg h10] at e';have hl:as.length=bs.length:=by
  have:=gf.k10;have:=gf.k2;by_cases h7:f.kind=7
  ·rw [gf.two h7,gg.two (by omega)]
  ·rw [gf.one (by omega),gg.one (by omega)]
 have hfg:f=g:=lab_eq hk (by rw [nf.n (by omega) (by omega) (by omega) (by omega) (by omega),ng.n (by omega) (by omega) (by omega) (by omega) (by omega)]) (by rw [(nf.c (by omega)).1,(ng.c (by omega)).1]) (by rw [(nf.c (by omega)).2,(ng.c (by omega)).2]) (by rw [nf.names (by omega),ng.names (by omega)]);rw [if_pos ⟨hfg,hl⟩] at e;exact base r e q e'
end Uni
end
