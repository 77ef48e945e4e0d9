/- P1, P2, P3 -/

set_option maxRecDepth 100000
set_option maxHeartbeats 60000000
set_option linter.all false
section
namespace Uni
structure Lab where
 kind:Nat
 n:Nat
 cnt:Nat
 vari:Bool
 names:List (List UInt8)
 deriving DecidableEq
inductive Tm where
 |var (p:Nat)
 |node (f:Lab) (as:List Tm)
theorem Tm.ind {P:Tm->Prop}(hv: ∀p,P (.var p))(hn: ∀f as,(∀a∈as,P a)->P (.node f as)): ∀t,P t:=by
 intro t;have key: ∀n,∀t:Tm,sizeOf t<=n->P t:=by
  intro n
  induction n with
  |zero=>intro t h;cases t <;>simp at h <;>omega
  |succ n ih=>
   intro t h
   cases t with
   |var p=>exact hv p
   |node f as=>
    refine hn f as fun a ha=>ih a ?_
    have:=List.sizeOf_lt_of_mem ha;simp at h;omega
 exact key _ t (Nat.le_refl _)
def Tm.sub (θ:Nat->Tm):Tm->Tm
 |.var p=>θ p
 |.node f as=> .node f (as.map (Tm.sub θ))
theorem Tm.sub_var (θ:Nat->Tm)(p:Nat):(Tm.var p).sub θ=θ p:=by simp [Tm.sub]
theorem Tm.sub_node (θ:Nat->Tm)(f:Lab)(as:List Tm):(Tm.node f as).sub θ= .node f (as.map (Tm.sub θ)):=by
 simp [Tm.sub]
def Tm.own (l:List Tm):Tm->Tm
 |.var p=> .var p
 |.node f as=>if f.kind=3 then l.getD f.n (.var 0) else .node f (as.map (Tm.own l))
theorem Tm.own_var (l:List Tm)(p:Nat):(Tm.var p).own l= .var p:=by simp [Tm.own]
theorem Tm.own_node (l:List Tm)(f:Lab)(as:List Tm):(Tm.node f as).own l=if f.kind=3 then l.getD f.n (.var 0) else .node f (as.map (Tm.own l)):=by
 simp [Tm.own]
abbrev zE:=Nat->Tm
def und (D:zE):Tm->Tm
 |.node f as=>if f.kind=1 then (D f.n).own as else .node f as
 |.var p=> .var p
def Tm.kind:Tm->Nat
 |.var _=>2
 |.node f _=>f.kind
def isVar:Tm->Bool
 |.var _=>true
 |_=>false
def xR (t:Tm):Bool:=t.kind==1 && !isVar t
def zZ (D:zE):Prop:= ∀i,∃f as,D i= .node f as/\(f.kind=0\/4<=f.kind)
inductive Mode where
 |exact | assign | loose
 deriving DecidableEq
def inner:Mode->Mode
 |.assign=> .exact
 |m=>m
structure St where
 j:Nat->Nat
 v:Nat->Option Tm
namespace St
def get (s:St)(p:Nat):Option Tm:=s.v (s.j p)
def putAt (s:St)(P:Nat)(t:Tm):St:= {s with v:=fun i=>if i=P then some t else s.v i}
def join (s:St)(P Q:Nat):St:=
 {j:=fun i=>if s.j i=P\/s.j i=Q then min P Q else s.j i
  v:=fun i=>if i=min P Q then (match s.v P with | some t=>some t | none=>s.v Q) else s.v i}
def init:St:= {j:=fun i=>i,v:=fun _=>none}
end St
def orL:List (Option Bool)->Option Bool
 |[]=>some false
 |none::_=>none
 |some true::_=>some true
 |some false::r=>orL r
def xI:Nat->St->Tm->Nat->Option Bool
 |0,_,_,_=>none
 |N + 1,s,.var q,P=>if s.j q=P then some true else match s.v (s.j q) with
  |none=>some false
  |some k=>xI N s k P
 |N + 1,s,.node _ as,P=>orL (as.map fun a=>xI N s a P)
inductive Res where
 |silent
 |fail
 |ok (s:St)
def seqS (step:St->Tm->Tm->Option Res):St->List Tm->List Tm->Option Res
 |s,a::as,b::bs=>match step s a b with
  |some (.ok s')=>seqS step s' as bs
  |r=>r
 |s,_,_=>some (.ok s)
def wH (D:zE)(t:Tm):Option Nat:=
 match und D t with
 |.node f _=>if f.kind=8 then some f.n else none
 |.var _=>none
def zT (D:zE)(x y:Tm):Bool:=
 match wH D x,wH D y with
 |some a,some b=>a !=b
 |_,_=>false
open Classical in
noncomputable def yF (D:zE)(step:St->Tm->Tm->Mode->Option Res)(s:St)(f:Lab)(as:List Tm)(g:Lab)(bs:List Tm)(m:Mode):Option Res:=
 if m≠ .exact/\zT D (.node f as) (.node g bs)=true then some .silent
 else if m≠ .exact/\f.kind=1/\4<=g.kind then step s (und D (.node f as)) (.node g bs) (inner m)
 else if m≠ .exact/\g.kind=1/\4<=f.kind then step s (.node f as) (und D (.node g bs)) (inner m)
 else if m≠ .exact/\(f.kind=1/\g.kind=0\/f.kind=0/\g.kind=1) then some .silent
 else if m= .assign/\f.kind=1/\g.kind=1/\f.n=g.n/\Tm.node f as≠Tm.node g bs then some .silent
 else if f=g/\as.length=bs.length then seqS (fun s a b=>step s a b (inner m)) s as bs
 else some .fail
open Classical in
noncomputable def zX (N:Nat)(step:St->Tm->Tm->Mode->Option Res)(s:St)(P:Nat)(t:Tm)(m:Mode):Option Res:=
 match s.v P with
 |none=>if xI N s t P=some false then some (.ok (s.putAt P t)) else none
 |some k=>match step s k t m with
  |some (.ok s')=>
   if m= .loose/\k.kind=t.kind/\(t.kind=1\/t.kind=8)/\k≠t then some .silent
   else if m= .exact\/t.kind≠1 then some (.ok s')
   else if xI N s' t P=some false then some (.ok (s'.putAt P t)) else none
  |r=>r
noncomputable def yU (N:Nat)(step:St->Tm->Tm->Mode->Option Res)(s:St)(P Q:Nat)(m:Mode):Option Res:=
 if P=Q then some (.ok s) else
 match s.v P,s.v Q with
 |some a,some b=>step s a b m
 |some k,none=>if xI N s k P=some false/\xI N s k Q=some false then some (.ok (s.join P Q)) else none
 |none,some k=>if xI N s k P=some false/\xI N s k Q=some false then some (.ok (s.join P Q)) else none
 |none,none=>some (.ok (s.join P Q))
noncomputable def zI (D:zE):Nat->St->Tm->Tm->Mode->Option Res
 |0,_,_,_,_=>none
 |N + 1,s,.var p,.var q,m=>yU N (zI D N) s (s.j p) (s.j q) m
 |N + 1,s,.var p,.node g bs,m=>zX N (zI D N) s (s.j p) (.node g bs) m
 |N + 1,s,.node f as,.var q,m=>zX N (zI D N) s (s.j q) (.node f as) m
 |N + 1,s,.node f as,.node g bs,m=>yF D (zI D N) s f as g bs m
def seqN (step:St->Tm->Tm->Option (Option St)):St->List Tm->List Tm->Option (Option St)
 |s,a::as,b::bs=>match step s a b with
  |some (some s')=>seqN step s' as bs
  |r=>r
 |s,_,_=>some (some s)
def seqF (step:St->Tm->Tm->Option (Option St)):St->List (List UInt8)->List (List UInt8)->List Tm->List Tm->Option (Option St)
 |s,ns,ms,a::as,b::bs=>
  if ns.headD []≠ms.headD [] then some none else match step s a b with
  |some (some s')=>seqF step s' ns.tail ms.tail as bs
  |r=>r
 |s,_,_,_,_=>some (some s)
def tupN (step:Option (St->Tm->Tm->Option (Option St)))(s:St)(n o:Nat)(as bs:List Tm):Option (Option St):=
 match step with
 |none=>if as.length=0/\bs.length=0 then some (some s) else none
 |some st=>if n≠o then some none else if as.length≠bs.length then some none else seqN st s as bs
def zK (step:St->Tm->Tm->Mode->Option (Option St))(zQ:Option (St->Tm->Tm->Mode->Option (Option St)))(s:St)(f:Lab)(as:List Tm)(g:Lab)(bs:List Tm)(m:Mode):Option (Option St):=
 if f.kind≠g.kind then some none
 else if f.kind=0 then some (if f.n=g.n then some s else none)
 else if f.kind=1 then
  if as.length≠bs.length then some none else
  match seqN (fun s a b=>step s a b m) s as bs with
  |some (some s')=>some (if f.n=g.n then some s' else none)
  |r=>r
 else if f.kind=6 then if f.n≠g.n then some none else seqN (fun s a b=>step s a b (inner m)) s as bs
 else if f.kind=8 then if m= .exact/\f.n≠g.n then some none else seqN (fun s a b=>step s a b (inner m)) s as bs
 else if f.kind=9 then if as.length≠bs.length then some none else seqF (fun s a b=>step s a b (inner m)) s f.names g.names as bs
 else if f.kind=10 then
  if f.vari≠g.vari then some none else
  match tupN (zQ.map fun st s a b=>st s a b (inner m)) s f.cnt g.cnt (as.take f.cnt) (bs.take g.cnt) with
  |some (some s')=>tupN (zQ.map fun st s a b=>st s a b (inner m)) s' 0 0 (as.drop f.cnt) (bs.drop g.cnt)
  |r=>r
 else seqN (fun s a b=>step s a b (inner m)) s as bs
def dirChan:Tm->Bool
 |.node f _=>f.kind==8 && f.n !=0
 |.var _=>false
def yW (step:St->Tm->Tm->Mode->Option (Option St))(s:St)(p q:Nat)(m:Mode):Option (Option St):=
 if s.j p=s.j q then some (some s) else
 match s.get p,s.get q with
 |some a,some b=>step s a b m
 |_,_=>some (some (s.join (s.j p) (s.j q)))
def yB (step:St->Tm->Tm->Mode->Option (Option St))(s:St)(p:Nat)(t:Tm)(m:Mode):Option (Option St):=
 match s.get p with
 |none=>some (some (s.putAt (s.j p) t))
 |some k=>match step s k t m with
  |some (some s')=>if m= .exact\/xR k then some (some s')
   else if xR t\/dirChan t then some (some (s'.putAt (s'.j p) t)) else some (some s')
  |r=>r
def xD (D:zE)(step:St->Tm->Tm->Mode->Option (Option St))(zQ:Option (St->Tm->Tm->Mode->Option (Option St)))(s:St)(f:Lab)(as:List Tm)(g:Lab)(bs:List Tm)(m:Mode):Option (Option St):=
 if m≠ .exact/\g.kind=1/\f.kind≠1 then
  match und D (.node g bs) with
  |.node g' bs'=>zK step zQ s f as g' bs' m
  |.var _=>some none
 else zK step zQ s f as g bs m
def zJ (D:zE):Nat->St->Tm->Tm->Mode->Option (Option St)
 |0,_,_,_,_=>none
 |k + 1,s,.var p,.var q,m=>yW (zJ D k) s q p m
 |k + 1,s,.var p,.node g bs,m=>yB (zJ D k) s p (.node g bs) m
 |k + 1,s,.node f as,.var q,m=>yB (zJ D k) s q (.node f as) m
 |k + 1,s,.node f as,.node g bs,m=>
  let zQ:=match k with | 0=>none | k' + 1=>some (zJ D k')
  if f.kind=1 then xD D (zJ D k) zQ s g bs f as m
  else xD D (zJ D k) zQ s f as g bs m
end Uni
end
section
namespace Uni
structure Mg where
 cls:Nat->Nat
 vals:Nat->List Tm
def Ok (D:zE)(M:Mg):Nat->Tm->Tm->Prop
 |0,_,_=>True
 |_ + 1,.var p,.var q=>M.cls p=M.cls q
 |_ + 1,.var p,.node g bs=> .node g bs∈M.vals (M.cls p)
 |_ + 1,.node f as,.var q=> .node f as∈M.vals (M.cls q)
 |k + 1,.node f as,.node g bs=>
  (f.kind=1->4<=g.kind->Ok D M k (und D (.node f as)) (.node g bs))/\
  (g.kind=1->4<=f.kind->Ok D M k (.node f as) (und D (.node g bs)))/\
  ∀(i:Nat) (a b:Tm),as[i]?=some a->bs[i]?=some b->Ok D M k a b
def xL (D:zE)(M:Mg)(x y:Tm):Prop:= ∀k,Ok D M k x y
theorem Ok.symm {D:zE}{M:Mg}: ∀ {k:Nat}{x y:Tm},Ok D M k x y->Ok D M k y x:=by
 intro k
 induction k with
 |zero=>intro x y _;cases x <;>cases y <;>trivial
 |succ k ih=>
  intro x y h
  cases x with
  |var p=>cases y with
   |var q=>exact Eq.symm h
   |node g bs=>exact h
  |node f as=>cases y with
   |var q=>exact h
   |node g bs=>
    obtain ⟨h1,h2,h3⟩:=h;exact ⟨fun a b=>ih (h2 a b),fun a b=>ih (h1 a b),fun i a b ha hb=>ih (h3 i b a hb ha)⟩
theorem xL.symm {D:zE}{M:Mg}{x y:Tm}(h:xL D M x y):xL D M y x:=fun k=>(h k).symm
theorem Ok.refl {D:zE}{M:Mg}: ∀(k:Nat)(x:Tm),(∀p t,t∈M.vals p-> ∃f as,t= .node f as)->Ok D M k x x:=by
 intro k
 induction k with
 |zero=>intro x _;cases x <;>trivial
 |succ k ih=>
  intro x hv
  cases x with
  |var p=>exact rfl
  |node f as=>
   refine ⟨fun a b=>by omega,fun a b=>by omega,fun i a b ha hb=> ?_⟩;rw [ha] at hb;cases hb
   exact ih _ hv
inductive Ht (D:zE) (M:Mg):Nat->Tm->Prop
 |var (n p:Nat):(∀v∈M.vals (M.cls p),Ht D M n v)->Ht D M (n + 1) (.var p)
 |node (n:Nat) (f:Lab) (as:List Tm):f.kind≠10->(∀a∈as,Ht D M n a)->(f.kind=1->Ht D M n (und D (.node f as)))->Ht D M (n + 1) (.node f as)
 |func (n:Nat) (f:Lab) (as:List Tm):f.kind=10->(∀a∈as,Ht D M n a)->Ht D M (n + 2) (.node f as)
theorem Ht.succ {D:zE}{M:Mg}{n:Nat}{t:Tm}(h:Ht D M n t):Ht D M (n + 1) t:=by
 induction h with
 |var n p _ ih=>exact .var _ _ ih
 |node n f as h1 _ _ ih1 ih2=>exact .node _ _ _ h1 ih1 ih2
 |func n f as h1 _ ih=>exact .func _ _ _ h1 ih
theorem Ht.mono {D:zE}{M:Mg}{n m:Nat}{t:Tm}(h:Ht D M n t)(hm:n<=m):Ht D M m t:=by
 induction hm with
 |refl=>exact h
 |step _ ih=>exact Ht.succ ih
theorem Ht.of_var {D:zE}{M:Mg}{n p:Nat}(h:Ht D M n (.var p)): ∃n',n=n' + 1/\ ∀v∈M.vals (M.cls p),Ht D M n' v:=by
 cases h with
 |var n _ h=>exact ⟨n,rfl,h⟩
theorem Ht.of_node {D:zE}{M:Mg}{n:Nat}{f:Lab}{as:List Tm}(h:Ht D M n (.node f as))(hf:f.kind≠10):
 ∃n',n=n' + 1/\(∀a∈as,Ht D M n' a)/\(f.kind=1->Ht D M n' (und D (.node f as))):=by
 cases h with
 |node n _ _ _ h1 h2=>exact ⟨n,rfl,h1,h2⟩
 |func n _ _ h=>exact absurd h hf
theorem Ht.of_func {D:zE}{M:Mg}{n:Nat}{f:Lab}{as:List Tm}(h:Ht D M n (.node f as))(hf:f.kind=10):
 ∃n',n=n' + 2/\(∀a∈as,Ht D M n' a):=by
 cases h with
 |node n _ _ h=>exact absurd hf h
 |func n _ _ _ h=>exact ⟨n,rfl,h⟩
theorem Ht.pos {D:zE}{M:Mg}{n:Nat}{t:Tm}(h:Ht D M n t):0 < n:=by
 cases h <;>omega
structure Closed (D:zE) (M:Mg):Prop where
 nodes: ∀c t,t∈M.vals c-> ∃f as,t= .node f as
 vals: ∀c x y,x∈M.vals c->y∈M.vals c->xL D M x y
structure Inv (M:Mg) (s:St):Prop where
 idem: ∀p,s.j (s.j p)=s.j p
 cls: ∀p,M.cls (s.j p)=M.cls p
 val: ∀p t,s.v (s.j p)=some t->t∈M.vals (M.cls p)
theorem Inv.init (M:Mg):Inv M St.init:=⟨fun _=>rfl,fun _=>rfl,fun _ _ h=>by simp [St.init] at h⟩
theorem Inv.putAt {M:Mg}{s:St}(h:Inv M s){p:Nat}{t:Tm}(ht:t∈M.vals (M.cls p)):Inv M (s.putAt (s.j p) t):=by
 refine ⟨h.idem,h.cls,?_⟩;intro q u hu;simp only [St.putAt] at hu
 split at hu
 ·rename_i he
  cases hu
  have h1:=h.cls p;have h2:=h.cls q;rw [<-h2,he,h1];exact ht
 ·exact h.val q u hu
theorem Inv.join {M:Mg}{s:St}(h:Inv M s){p q:Nat}(hc:M.cls p=M.cls q):Inv M (s.join (s.j p) (s.j q)):=by
 have hp:=h.cls p;have hq:=h.cls q;have ip:=h.idem p;have iq:=h.idem q;refine ⟨fun i=> ?_,fun i=> ?_,fun i t ht=> ?_⟩
 ·simp only [St.join]
  by_cases hi:s.j i=s.j p\/s.j i=s.j q
  ·rw [if_pos hi]
   rcases Nat.le_total (s.j p) (s.j q) with hl | hl
   ·rw [Nat.min_eq_left hl,ip];simp
   ·rw [Nat.min_eq_right hl,iq];simp
  ·rw [if_neg hi,h.idem i,if_neg hi]
 ·simp only [St.join]
  by_cases hi:s.j i=s.j p\/s.j i=s.j q
  ·rw [if_pos hi]
   have hci:M.cls i=M.cls p:=by
    have:=h.cls i;rcases hi with hi | hi
    ·rw [hi] at this;rw [<-this,hp]
    ·rw [hi] at this;rw [<-this,hq,hc]
   rcases Nat.le_total (s.j p) (s.j q) with hl | hl
   ·rw [Nat.min_eq_left hl,hp,hci]
   ·rw [Nat.min_eq_right hl,hq,<-hc,hci]
  ·rw [if_neg hi];exact h.cls i
 ·simp only [St.join] at ht
  by_cases hi:s.j i=s.j p\/s.j i=s.j q
  ·rw [if_pos hi,if_pos rfl] at ht
   have hci:M.cls i=M.cls p:=by
    have:=h.cls i;rcases hi with hi | hi
    ·rw [hi] at this;rw [<-this,hp]
    ·rw [hi] at this;rw [<-this,hq,hc]
   rw [hci]
   cases hv:s.v (s.j p) with
   |some u=>rw [hv] at ht;cases ht;exact h.val p _ hv
   |none=>rw [hv] at ht;rw [hc];exact h.val q t ht
  ·rw [if_neg hi] at ht
   split at ht
   ·rename_i he
    exfalso;apply hi;rcases Nat.le_total (s.j p) (s.j q) with hl | hl
    ·left;rw [he,Nat.min_eq_left hl]
    ·right;rw [he,Nat.min_eq_right hl]
   ·exact h.val i t ht
theorem und_node {D:zE}(hD:zZ D)(g:Lab)(bs:List Tm)(hg:g.kind=1): ∃g' bs',und D (.node g bs)= .node g' bs'/\(g'.kind=0\/4<=g'.kind):=by
 obtain ⟨f,as,h,hk⟩:=hD g.n;refine ⟨f,as.map (Tm.own bs),?_,hk⟩;simp only [und,hg,if_true,h,Tm.own_node];rw [if_neg (by omega)]
theorem xO {D:zE}(g:Lab)(bs:List Tm)(hg:g.kind≠1):und D (.node g bs)= .node g bs:=by
 simp [und,hg]
def Ends (D:zE)(M:Mg)(k:Nat)(step:St->Tm->Tm->Mode->Option (Option St)):Prop:=
 ∀a b s x y m,a + b < k->xL D M x y->Ht D M a x->Ht D M b y->Inv M s-> ∃r,step s x y m=some r/\ ∀s',r=some s'->Inv M s'
theorem seqN_ends {M:Mg}{step:St->Tm->Tm->Option (Option St)}: ∀(as bs:List Tm)(s:St),
 (∀(i:Nat) (a b:Tm) (s:St),as[i]?=some a->bs[i]?=some b->Inv M s-> ∃r,step s a b=some r/\ ∀s',r=some s'->Inv M s')->Inv M s->
 ∃r,seqN step s as bs=some r/\ ∀s',r=some s'->Inv M s':=by
 intro as
 induction as with
 |nil=>intro bs s _ hs;exact ⟨some s,by simp [seqN],fun s' h=>by cases h;exact hs⟩
 |cons a as ih=>
  intro bs s h hs
  cases bs with
  |nil=>exact ⟨some s,by simp [seqN],fun s' h=>by cases h;exact hs⟩
  |cons b bs=>
   obtain ⟨r,hr,hr'⟩:=h 0 a b s rfl rfl hs
   cases r with
   |none=>exact ⟨none,by simp [seqN,hr],fun s' h=>by cases h⟩
   |some s1=>
    obtain ⟨r2,h2,h2'⟩:=ih bs s1 (fun i a b s ha hb=>h (i + 1) a b s (by simpa using ha) (by simpa using hb)) (hr' s1 rfl);exact ⟨r2,by simp [seqN,hr,h2],h2'⟩
theorem seqF_ends {M:Mg}{step:St->Tm->Tm->Option (Option St)}: ∀(as bs:List Tm)(s:St)(ns ms:List (List UInt8)),
 (∀(i:Nat) (a b:Tm) (s:St),as[i]?=some a->bs[i]?=some b->Inv M s-> ∃r,step s a b=some r/\ ∀s',r=some s'->Inv M s')->Inv M s->
 ∃r,seqF step s ns ms as bs=some r/\ ∀s',r=some s'->Inv M s':=by
 intro as
 induction as with
 |nil=>intro bs s _ _ _ hs;exact ⟨some s,by simp [seqF],fun s' h=>by cases h;exact hs⟩
 |cons a as ih=>
  intro bs s ns ms h hs
  cases bs with
  |nil=>exact ⟨some s,by simp [seqF],fun s' h=>by cases h;exact hs⟩
  |cons b bs=>
   unfold seqF
   split
   ·exact ⟨none,rfl,fun s' h=>by cases h⟩
   ·obtain ⟨r,hr,hr'⟩:=h 0 a b s rfl rfl hs
    cases r with
    |none=>exact ⟨none,by simp [hr],fun s' h=>by cases h⟩
    |some s1=>
     obtain ⟨r2,h2,h2'⟩:=ih bs s1 ns.tail ms.tail (fun i a b s ha hb=>h (i + 1) a b s (by simpa using ha) (by simpa using hb)) (hr' s1 rfl);exact ⟨r2,by simp [hr,h2],h2'⟩
theorem getElem?_take {as:List Tm}{n i:Nat}{a:Tm}(h:(as.take n)[i]?=some a):as[i]?=some a:=by
 rw [List.getElem?_take] at h
 split at h
 ·exact h
 ·cases h
theorem nifyNode_ends {D:zE}{M:Mg}(k:Nat)(step:St->Tm->Tm->Mode->Option (Option St))(zQ:Option (St->Tm->Tm->Mode->Option (Option St)))
 (h1:Ends D M k step) (h2:match zQ with | none=>k=0 | some st=>0 < k/\Ends D M (k - 1) st)
 (a b:Nat) (s:St) (f:Lab) (as:List Tm) (g:Lab) (bs:List Tm) (m:Mode) (hab:a + b < k + 1)
 (hok: ∀(i:Nat) (x y:Tm),as[i]?=some x->bs[i]?=some y->xL D M x y) (ha:Ht D M a (.node f as)) (hb:Ht D M b (.node g bs)) (hs:Inv M s):
 ∃r,zK step zQ s f as g bs m=some r/\ ∀s',r=some s'->Inv M s':=by
 have none_ok: ∃r,(some none:Option (Option St))=some r/\ ∀s',r=some s'->Inv M s':=⟨none,rfl,fun s' h=>by cases h⟩;by_cases hk:f.kind=g.kind
 case neg=>unfold zK;rw [if_pos hk];exact none_ok
 have kids: ∀m',f.kind≠10-> ∀(i:Nat) (x y:Tm) (s:St),as[i]?=some x->bs[i]?=some y->Inv M s-> ∃r,step s x y m'=some r/\ ∀s',r=some s'->Inv M s':=by
  intro m' hf i x y s hx hy hs;obtain ⟨a',rfl,ha',_⟩:=ha.of_node hf;obtain ⟨b',rfl,hb',_⟩:=hb.of_node (by omega);exact h1 a' b' s x y m' (by omega) (hok i x y hx hy) (ha' x (List.mem_of_getElem? hx)) (hb' y (List.mem_of_getElem? hy)) hs
 unfold zK;rw [if_neg (by omega)]
 split
 ·split
  ·exact ⟨some s,rfl,fun s' h=>by cases h;exact hs⟩
  ·exact none_ok
 split
 ·split
  ·exact none_ok
  ·obtain ⟨r,hr,hr'⟩:=seqN_ends (step:=fun s a b=>step s a b m) as bs s (kids m (by omega)) hs
   rw [hr]
   cases r with
   |none=>exact none_ok
   |some s1=>exact ⟨_,rfl,fun s' h=>by
     split at h
     ·cases h;exact hr' _ rfl
     ·cases h⟩
 split
 ·split
  ·exact none_ok
  ·exact seqN_ends as bs s (kids _ (by omega)) hs
 split
 ·split
  ·exact none_ok
  ·exact seqN_ends as bs s (kids _ (by omega)) hs
 split
 ·split
  ·exact none_ok
  ·exact seqF_ends as bs s _ _ (kids _ (by omega)) hs
 split
 ·rename_i h10
  split
  ·exact none_ok
  ·obtain ⟨a',rfl,ha'⟩:=ha.of_func h10
   obtain ⟨b',rfl,hb'⟩:=hb.of_func (by omega);have tupEnds: ∀(n o:Nat) (as' bs':List Tm) (s:St),(∀x∈as',x∈as)->(∀y∈bs',y∈bs)->(n=o-> ∀(i:Nat) (x y:Tm),as'[i]?=some x->bs'[i]?=some y->xL D M x y)->Inv M s->
    ∃r,tupN (zQ.map fun st s a b=>st s a b (inner m)) s n o as' bs'=some r/\(∀s',r=some s'->Inv M s'/\n=o):=by
    intro n o as' bs' s hsa hsb hoks hs
    cases zQ with
    |none=>have hk0:k=0:=h2;omega
    |some st=>
     obtain ⟨hk0,hst⟩:=h2;simp only [Option.map_some,tupN]
     split
     ·exact ⟨none,rfl,fun s' h=>by cases h⟩
     rename_i hno
     split
     ·exact ⟨none,rfl,fun s' h=>by cases h⟩
     ·suffices hh: ∃r,seqN (fun s a b=>st s a b (inner m)) s as' bs'=some r/\ ∀s',r=some s'->Inv M s' from by
       obtain ⟨r,hr,hr'⟩:=hh;exact ⟨r,hr,fun s' h=>⟨hr' s' h,by omega⟩⟩
      refine seqN_ends as' bs' s (fun i x y s hx hy hs=> ?_) hs;have hxm:=hsa x (List.mem_of_getElem? hx);have hym:=hsb y (List.mem_of_getElem? hy);exact hst a' b' s x y _ (by omega) (hoks (by omega) i x y hx hy) (ha' x hxm) (hb' y hym) hs
   obtain ⟨r,hr,hr'⟩:=tupEnds f.cnt g.cnt (as.take f.cnt) (bs.take g.cnt) s (fun x hx=>List.mem_of_mem_take hx) (fun x hx=>List.mem_of_mem_take hx)
    (fun _ i x y hx hy=>hok i x y (getElem?_take hx) (getElem?_take hy)) hs
   rw [hr]
   cases r with
   |none=>exact none_ok
   |some s1=>
    obtain ⟨hs1,hc⟩:=hr' s1 rfl;obtain ⟨r2,h2,h2'⟩:=tupEnds 0 0 (as.drop f.cnt) (bs.drop g.cnt) s1 (fun x hx=>List.mem_of_mem_drop hx) (fun x hx=>List.mem_of_mem_drop hx)
     (fun _ i x y hx hy=>by
      rw [List.getElem?_drop] at hx hy;rw [<-hc] at hy;exact hok _ x y hx hy) hs1
    exact ⟨r2,h2,fun s' h=>(h2' s' h).1⟩
 ·exact seqN_ends as bs s (kids _ (by omega)) hs
theorem nifyLit_ends {D:zE}{M:Mg}(hD:zZ D)(k:Nat)(step:St->Tm->Tm->Mode->Option (Option St))(zQ:Option (St->Tm->Tm->Mode->Option (Option St)))
 (h1:Ends D M k step) (h2:match zQ with | none=>k=0 | some st=>0 < k/\Ends D M (k - 1) st)
 (a b:Nat) (s:St) (f:Lab) (as:List Tm) (g:Lab) (bs:List Tm) (m:Mode) (hab:a + b < k + 1)
 (hok:xL D M (.node f as) (.node g bs)) (ha:Ht D M a (.node f as)) (hb:Ht D M b (.node g bs)) (hs:Inv M s):
 ∃r,xD D step zQ s f as g bs m=some r/\ ∀s',r=some s'->Inv M s':=by
 unfold xD
 split
 ·rename_i hc
  obtain ⟨hm,hg,hf⟩:=hc;obtain ⟨g',bs',hu,hk⟩:=und_node hD g bs hg;obtain ⟨b',rfl,hb1,hb2⟩:=hb.of_node (by omega);have hb3:=hb2 hg;rw [hu] at hb3 ⊢;by_cases hfk:4<=f.kind
  ·have hok':xL D M (.node f as) (.node g' bs'):=fun k=>by
    have:=(hok (k + 1)).2.1 hg hfk;rw [hu] at this;exact this
   exact nifyNode_ends k step zQ h1 h2 a b' s f as g' bs' m (by omega) (fun i x y hx hy k=>(hok' (k + 1)).2.2 i x y hx hy) ha hb3 hs
  ·
   by_cases hfg:f.kind=g'.kind
   ·have h0:f.kind=0:=by omega
    refine ⟨if f.n=g'.n then some s else none,?_,fun s' h=> ?_⟩
    ·dsimp only;unfold zK;rw [if_neg (by omega),if_pos h0]
    ·split at h
     ·cases h;exact hs
     ·cases h
   ·exact ⟨none,by dsimp only;unfold zK;rw [if_pos hfg],fun s' h=>by cases h⟩
 ·exact nifyNode_ends k step zQ h1 h2 a b s f as g bs m hab (fun i x y hx hy k=>(hok (k + 1)).2.2 i x y hx hy) ha hb hs
theorem nifyMatch_ends {D:zE}{M:Mg}(hM:Closed D M)(k:Nat)(step:St->Tm->Tm->Mode->Option (Option St))(h1:Ends D M k step)
 (a b:Nat) (s:St) (p:Nat) (t:Tm) (m:Mode) (hab:a + b < k + 1) (ht:t∈M.vals (M.cls p)) (ha:Ht D M a (.var p)) (hb:Ht D M b t) (hs:Inv M s):
 ∃r,yB step s p t m=some r/\ ∀s',r=some s'->Inv M s':=by
 unfold yB
 cases hg:s.get p with
 |none=>exact ⟨_,rfl,fun s' h=>by cases h;exact hs.putAt ht⟩
 |some u=>
  have hu:u∈M.vals (M.cls p):=hs.val p u hg;obtain ⟨a',rfl,ha'⟩:=ha.of_var;obtain ⟨r,hr,hr'⟩:=h1 a' b s u t m (by omega) (hM.vals _ _ _ hu ht) (ha' u hu) hb hs;simp only [hr]
  cases r with
  |none=>exact ⟨none,rfl,fun s' h=>by cases h⟩
  |some s1=>
   have i1:=hr' s1 rfl;dsimp only
   split
   ·exact ⟨_,rfl,fun s' h=>by cases h;exact i1⟩
   ·split
    ·exact ⟨_,rfl,fun s' h=>by cases h;exact i1.putAt ht⟩
    ·exact ⟨_,rfl,fun s' h=>by cases h;exact i1⟩
theorem nifyT_ends {D:zE}{M:Mg}(hD:zZ D)(hM:Closed D M): ∀k,Ends D M k (zJ D k):=by
 intro k
 induction k using Nat.strongRecOn with
 |ind k ih=>
  intro a b s x y m hab hok ha hb hs
  cases k with
  |zero=>omega
  |succ k=>
   have ih1:=ih k (by omega)
   cases x with
   |var p=>
    cases y with
    |var q=>
     have hc:M.cls p=M.cls q:=hok 1;obtain ⟨a',rfl,ha'⟩:=ha.of_var;obtain ⟨b',rfl,hb'⟩:=hb.of_var;simp only [zJ,yW]
     split
     ·exact ⟨_,rfl,fun s' h=>by cases h;exact hs⟩
     ·cases hq:s.get q with
      |none=>exact ⟨_,rfl,fun s' h=>by cases h;exact hs.join hc.symm⟩
      |some u=>
       cases hp:s.get p with
       |none=>exact ⟨_,rfl,fun s' h=>by cases h;exact hs.join hc.symm⟩
       |some v=>
        have hu:=hs.val q u hq;have hv:=hs.val p v hp;exact ih1 b' a' s u v m (by omega) (hM.vals _ _ _ hu (hc ▸ hv)) (hb' u hu) (ha' v hv) hs
    |node g bs=>
     simp only [zJ];exact nifyMatch_ends hM k _ ih1 a b s p _ m hab (hok 1) ha hb hs
   |node f as=>
    cases y with
    |var q=>
     simp only [zJ];exact nifyMatch_ends hM k _ ih1 b a s q _ m (by omega) (hok 1) hb ha hs
    |node g bs=>
     cases k with
     |zero=>have:=ha.pos;have:=hb.pos;omega
     |succ k'=>
     have hst2:0 < k' + 1/\Ends D M (k' + 1 - 1) (zJ D k'):=⟨by omega,ih k' (by omega)⟩;rw [zJ]
     split
     ·exact nifyLit_ends hD (k' + 1) _ (some (zJ D k')) ih1 hst2 b a s g bs f as m (by omega) hok.symm hb ha hs
     ·exact nifyLit_ends hD (k' + 1) _ (some (zJ D k')) ih1 hst2 a b s f as g bs m hab hok ha hb hs
end Uni
end
section
namespace Uni
inductive Leads (s:St):Tm->Nat->Prop
 |here (q:Nat):Leads s (.var q) (s.j q)
 |known (q:Nat) (t:Tm) (P:Nat):s.v (s.j q)=some t->Leads s t P->Leads s (.var q) P
 |elem (f:Lab) (as:List Tm) (a:Tm) (P:Nat):a∈as->Leads s a P->Leads s (.node f as) P
theorem Leads.height {D:zE}{M:Mg}{s:St}(hs:Inv M s){t:Tm}{P:Nat}(h:Leads s t P): ∀n,Ht D M n t-> ∃q,s.j q=P/\ ∃m,m<=n/\Ht D M m (.var q):=by
 induction h with
 |here q=>exact fun n hn=>⟨q,rfl,n,Nat.le_refl _,hn⟩
 |known q t P hv _ ih=>
  intro n hn;obtain ⟨n',rfl,h'⟩:=hn.of_var;obtain ⟨q',hq,m,hm,hm'⟩:=ih n' (h' t (hs.val q t hv));exact ⟨q',hq,m,by omega,hm'⟩
 |elem f as a P ha _ ih=>
  intro n hn;by_cases hf:f.kind=10
  ·obtain ⟨n',rfl,h'⟩:=hn.of_func hf
   obtain ⟨q',hq,m,hm,hm'⟩:=ih n' (h' a ha);exact ⟨q',hq,m,by omega,hm'⟩
  ·obtain ⟨n',rfl,h',_⟩:=hn.of_node hf
   obtain ⟨q',hq,m,hm,hm'⟩:=ih n' (h' a ha);exact ⟨q',hq,m,by omega,hm'⟩
theorem Ht.cls {D:zE}{M:Mg}{n p q:Nat}(h:Ht D M n (.var p))(hc:M.cls p=M.cls q):Ht D M n (.var q):=by
 obtain ⟨n',rfl,h'⟩:=h.of_var;exact .var _ _ (hc ▸ h')
theorem Ht.least {D:zE}{M:Mg}{n:Nat}{t:Tm}(h:Ht D M n t): ∃m,m<=n/\Ht D M m t/\ ∀k,k < m-> ¬Ht D M k t:=by
 induction n using Nat.strongRecOn with
 |ind n ih=>
  by_cases hk: ∃k,k < n/\Ht D M k t
  ·obtain ⟨k,hk,hk'⟩:=hk
   obtain ⟨m,hm,h1,h2⟩:=ih k hk hk';exact ⟨m,by omega,h1,h2⟩
  ·exact ⟨n,Nat.le_refl _,h,fun k hk' h'=>hk ⟨k,hk',h'⟩⟩
theorem not_leads {D:zE}{M:Mg}{s:St}(hs:Inv M s){p:Nat}{n:Nat}(hp:Ht D M n (.var p)){t:Tm}(ht:t∈M.vals (M.cls p)){q:Nat}(hq:M.cls q=M.cls p): ¬Leads s t (s.j q):=by
 intro h;obtain ⟨m,_,hm,hmin⟩:=hp.least;obtain ⟨m',rfl,h'⟩:=hm.of_var;obtain ⟨r,hr,k,hk,hk'⟩:=h.height hs m' (h' t ht);refine hmin k (by omega) (hk'.cls ?_);rw [<-hs.cls r,hr,hs.cls q,hq]
theorem orL_false {l:List (Option Bool)}:orL l=some false↔ ∀x∈l,x=some false:=by
 induction l with
 |nil=>simp [orL]
 |cons x l ih=>
  cases x with
  |none=>simp [orL]
  |some b=>cases b <;>simp [orL,ih]
theorem contS_false {D:zE}{M:Mg}{s:St}(hs:Inv M s): ∀(n:Nat)(t:Tm)(P N:Nat),Ht D M n t->n<=N-> ¬Leads s t P->xI N s t P=some false:=by
 intro n
 induction n using Nat.strongRecOn with
 |ind n ih=>
  intro t P N ht hN hl
  cases N with
  |zero=>have:=ht.pos;omega
  |succ N=>
   cases t with
   |var q=>
    obtain ⟨n',rfl,h'⟩:=ht.of_var;rw [xI];rw [if_neg (fun (e:s.j q=P)=>hl (e ▸ Leads.here q))]
    cases hv:s.v (s.j q) with
    |none=>rfl
    |some u=>exact ih n' (by omega) u P N (h' u (hs.val q u hv)) (by omega) (fun h=>hl (.known q u P hv h))
   |node f as=>
    rw [xI,orL_false];intro x hx;obtain ⟨a,ha,rfl⟩:=List.mem_map.1 hx;by_cases hf:f.kind=10
    ·obtain ⟨n',rfl,h'⟩:=ht.of_func hf
     exact ih n' (by omega) a P N (h' a ha) (by omega) (fun h=>hl (.elem f as a P ha h))
    ·obtain ⟨n',rfl,h',_⟩:=ht.of_node hf
     exact ih n' (by omega) a P N (h' a ha) (by omega) (fun h=>hl (.elem f as a P ha h))
def Keeps (D:zE)(M:Mg)(n:Nat)(s s':St):Prop:= ∀q,¬Ht D M n (.var q)->s'.j q=s.j q
theorem Keeps.refl {D:zE}{M:Mg}(n:Nat)(s:St):Keeps D M n s s:=fun _ _=>rfl
theorem Keeps.mono {D:zE}{M:Mg}{n m:Nat}{s s':St}(h:Keeps D M n s s')(hn:n<=m):Keeps D M m s s':=fun q hq=>h q fun h'=>hq (h'.mono hn)
theorem Keeps.trans {D:zE}{M:Mg}{n:Nat}{s s' s'':St}(h:Keeps D M n s s')(h':Keeps D M n s' s''):Keeps D M n s s'':=fun q hq=>(h' q hq).trans (h q hq)
theorem Keeps.putAt {D:zE}{M:Mg}{n:Nat}{s s':St}(h:Keeps D M n s s')(P:Nat)(t:Tm):Keeps D M n s (s'.putAt P t):=h
theorem Keeps.join {D:zE}{M:Mg}{n:Nat}{s:St}(hs:Inv M s){p q:Nat}(hp:Ht D M n (.var p))(hc:M.cls p=M.cls q):Keeps D M n s (s.join (s.j p) (s.j q)):=by
 intro r hr;simp only [St.join];rw [if_neg];rintro (h | h)
 ·exact hr (hp.cls (by rw [<-hs.cls r,h,hs.cls p]))
 ·exact hr (hp.cls (by rw [<-hs.cls r,h,hs.cls q,hc]))
def GoodS (D:zE)(M:Mg)(n:Nat)(s:St)(r:Res):Prop:= ∀s',r= .ok s'->Inv M s'/\Keeps D M n s s'
def EndsS (D:zE)(M:Mg)(k:Nat)(step:St->Tm->Tm->Mode->Option Res):Prop:=
 ∀a b s x y m,a + b < k->xL D M x y->Ht D M a x->Ht D M b y->Inv M s-> ∃r,step s x y m=some r/\GoodS D M (max a b) s r
theorem GoodS.silent {D:zE}{M:Mg}{n:Nat}{s:St}:GoodS D M n s .silent:=fun _ h=>by cases h
theorem GoodS.fail {D:zE}{M:Mg}{n:Nat}{s:St}:GoodS D M n s .fail:=fun _ h=>by cases h
theorem GoodS.ok {D:zE}{M:Mg}{n:Nat}{s s':St}(h:Inv M s')(k:Keeps D M n s s'):GoodS D M n s (.ok s'):=fun _ e=>by cases e;exact ⟨h,k⟩
theorem GoodS.mono {D:zE}{M:Mg}{n m:Nat}{s:St}{r:Res}(h:GoodS D M n s r)(hn:n<=m):GoodS D M m s r:=fun s' e=>⟨(h s' e).1,(h s' e).2.mono hn⟩
theorem seqS_ends {D:zE}{M:Mg}{n:Nat}{step:St->Tm->Tm->Option Res}: ∀(as bs:List Tm)(s:St),
 (∀(i:Nat) (a b:Tm) (s:St),as[i]?=some a->bs[i]?=some b->Inv M s-> ∃r,step s a b=some r/\GoodS D M n s r)->Inv M s->
 ∃r,seqS step s as bs=some r/\GoodS D M n s r:=by
 intro as
 induction as with
 |nil=>intro bs s _ hs;exact ⟨.ok s,by simp [seqS],.ok hs (.refl _ _)⟩
 |cons a as ih=>
  intro bs s h hs
  cases bs with
  |nil=>exact ⟨.ok s,by simp [seqS],.ok hs (.refl _ _)⟩
  |cons b bs=>
   obtain ⟨r,hr,hr'⟩:=h 0 a b s rfl rfl hs
   cases r with
   |silent=>exact ⟨.silent,by simp [seqS,hr],.silent⟩
   |fail=>exact ⟨.fail,by simp [seqS,hr],.fail⟩
   |ok s1=>
    obtain ⟨r2,h2,h2'⟩:=ih bs s1 (fun i a b s ha hb=>h (i + 1) a b s (by simpa using ha) (by simpa using hb)) (hr' s1 rfl).1;exact ⟨r2,by simp [seqS,hr,h2],fun s' e=>⟨(h2' s' e).1,(hr' s1 rfl).2.trans (h2' s' e).2⟩⟩
theorem Ht.kid {D:zE}{M:Mg}{n:Nat}{f:Lab}{as:List Tm}(h:Ht D M n (.node f as)){a:Tm}(ha:a∈as): ∃n',n' < n/\Ht D M n' a:=by
 by_cases hf:f.kind=10
 ·obtain ⟨n',rfl,h'⟩:=h.of_func hf
  exact ⟨n',by omega,h' a ha⟩
 ·obtain ⟨n',rfl,h',_⟩:=h.of_node hf
  exact ⟨n',by omega,h' a ha⟩
theorem Ht.und {D:zE}{M:Mg}{n:Nat}{f:Lab}{as:List Tm}(h:Ht D M n (.node f as))(hf:f.kind=1): ∃n',n' < n/\Ht D M n' (und D (.node f as)):=by
 obtain ⟨n',rfl,_,h'⟩:=h.of_node (by omega);exact ⟨n',by omega,h' hf⟩
theorem unifyNode_ends {D:zE}{M:Mg}(k:Nat)(step:St->Tm->Tm->Mode->Option Res)(h1:EndsS D M k step)
 (a b:Nat) (s:St) (f:Lab) (as:List Tm) (g:Lab) (bs:List Tm) (m:Mode) (hab:a + b < k + 1)
 (hok:xL D M (.node f as) (.node g bs)) (ha:Ht D M a (.node f as)) (hb:Ht D M b (.node g bs)) (hs:Inv M s):
 ∃r,yF D step s f as g bs m=some r/\GoodS D M (max a b) s r:=by
 unfold yF
 split
 ·exact ⟨_,rfl,.silent⟩
 split
 ·rename_i h
  obtain ⟨a',hlt,ha'⟩:=ha.und h.2.1;obtain ⟨r,h1,h2⟩:=h1 a' b s _ _ (inner m) (by omega) (fun k=>(hok (k + 1)).1 h.2.1 h.2.2) ha' hb hs;exact ⟨r,h1,h2.mono (by omega)⟩
 split
 ·rename_i h
  obtain ⟨b',hlt,hb'⟩:=hb.und h.2.1;obtain ⟨r,h1,h2⟩:=h1 a b' s _ _ (inner m) (by omega) (fun k=>(hok (k + 1)).2.1 h.2.1 h.2.2) ha hb' hs;exact ⟨r,h1,h2.mono (by omega)⟩
 split
 ·exact ⟨_,rfl,.silent⟩
 split
 ·exact ⟨_,rfl,.silent⟩
 split
 ·refine seqS_ends as bs s (fun i x y s hx hy hs=> ?_) hs
  obtain ⟨a',hl,ha'⟩:=ha.kid (List.mem_of_getElem? hx);obtain ⟨b',hl',hb'⟩:=hb.kid (List.mem_of_getElem? hy);obtain ⟨r,h1,h2⟩:=h1 a' b' s x y (inner m) (by omega) (fun k=>(hok (k + 1)).2.2 i x y hx hy) ha' hb' hs;exact ⟨r,h1,h2.mono (by omega)⟩
 ·exact ⟨_,rfl,.fail⟩
theorem below {D:zE}{M:Mg}{a p:Nat}(ha:Ht D M a (.var p)): ∃a0,a0 < a/\(∀v∈M.vals (M.cls p),Ht D M a0 v)/\ ¬Ht D M a0 (.var p):=by
 obtain ⟨m,hm,h,hmin⟩:=ha.least;obtain ⟨a0,rfl,h'⟩:=h.of_var;exact ⟨a0,by omega,h',hmin a0 (by omega)⟩
theorem Ht.min {D:zE}{M:Mg}{a b:Nat}{t:Tm}(ha:Ht D M a t)(hb:Ht D M b t):Ht D M (min a b) t:=by
 rcases Nat.le_total a b with h | h
 ·rw [Nat.min_eq_left h];exact ha
 ·rw [Nat.min_eq_right h];exact hb
theorem unifyMatch_ends {D:zE}{M:Mg}(hM:Closed D M)(k N:Nat)(step:St->Tm->Tm->Mode->Option Res)(h1:EndsS D M k step)
 (a b:Nat) (s:St) (p:Nat) (t:Tm) (m:Mode) (hab:a + b < k + 1) (hN:b<=N) (ht:t∈M.vals (M.cls p)) (ha:Ht D M a (.var p)) (hb:Ht D M b t) (hs:Inv M s):
 ∃r,zX N step s (s.j p) t m=some r/\GoodS D M a s r:=by
 unfold zX
 cases hg:s.v (s.j p) with
 |none=>
  dsimp only;rw [if_pos (contS_false hs b t _ N hb hN (not_leads hs ha ht rfl))];exact ⟨_,rfl,.ok (hs.putAt ht) (.refl _ _)⟩
 |some u=>
  have hu:u∈M.vals (M.cls p):=hs.val p u hg;obtain ⟨a0,h0,hv,hno⟩:=below ha;obtain ⟨r,hr,hr'⟩:=h1 a0 (min b a0) s u t m (by omega) (hM.vals _ _ _ hu ht) (hv u hu) (hb.min (hv t ht)) hs;simp only [hr];rw [show max a0 (min b a0)=a0 by omega] at hr'
  cases r with
  |silent=>exact ⟨_,rfl,.silent⟩
  |fail=>exact ⟨_,rfl,.fail⟩
  |ok s1=>
   obtain ⟨i1,k1⟩:=hr' s1 rfl;have hj:s1.j p=s.j p:=k1 p hno;dsimp only
   split
   ·exact ⟨_,rfl,.silent⟩
   split
   ·exact ⟨_,rfl,.ok i1 (k1.mono (by omega))⟩
   ·rw [<-hj,if_pos (contS_false i1 b t _ N hb hN (not_leads i1 ha ht rfl))]
    exact ⟨_,rfl,.ok (i1.putAt ht) ((k1.mono (by omega)).putAt _ _)⟩
theorem unifyVars_ends {D:zE}{M:Mg}(hM:Closed D M)(k N:Nat)(step:St->Tm->Tm->Mode->Option Res)(h1:EndsS D M k step)
 (a b:Nat) (s:St) (p q:Nat) (m:Mode) (hab:a + b < k + 1) (hN:a<=N/\b<=N) (hc:M.cls p=M.cls q) (ha:Ht D M a (.var p)) (hb:Ht D M b (.var q)) (hs:Inv M s):
 ∃r,yU N step s (s.j p) (s.j q) m=some r/\GoodS D M (max a b) s r:=by
 unfold yU
 split
 ·exact ⟨_,rfl,.ok hs (.refl _ _)⟩
 have no: ∀t n,t∈M.vals (M.cls p)->Ht D M n t->n<=N->xI N s t (s.j p)=some false/\xI N s t (s.j q)=some false:=fun t n ht hn hl=>
  ⟨contS_false hs n t _ N hn hl (not_leads hs ha ht rfl),contS_false hs n t _ N hn hl (not_leads hs ha ht hc.symm)⟩
 have jn:GoodS D M (max a b) s (.ok (s.join (s.j p) (s.j q))):= .ok (hs.join hc) (.join hs (ha.mono (by omega)) hc);obtain ⟨a',ea,ha'⟩:=ha.of_var;obtain ⟨b',eb,hb'⟩:=hb.of_var
 cases hp:s.v (s.j p) with
 |none=>
  cases hq:s.v (s.j q) with
  |none=>exact ⟨_,rfl,jn⟩
  |some u=>
   have hu:=hs.val q u hq;rw [<-hc] at hu;exact ⟨_,by dsimp only;rw [if_pos (no u a' hu (ha' u hu) (by omega))],jn⟩
 |some u=>
  have hu:=hs.val p u hp
  cases hq:s.v (s.j q) with
  |none=>exact ⟨_,by dsimp only;rw [if_pos (no u a' hu (ha' u hu) (by omega))],jn⟩
  |some v=>
   have hv:=hs.val q v hq;obtain ⟨r,h1,h2⟩:=h1 a' b' s u v m (by omega) (hM.vals _ _ _ hu (hc ▸ hv)) (ha' u hu) (hb' v hv) hs;exact ⟨r,h1,h2.mono (by omega)⟩
theorem wQ {D:zE}{M:Mg}(hM:Closed D M): ∀k,EndsS D M k (zI D k):=by
 intro k
 induction k with
 |zero=>intro a b s x y m h;omega
 |succ k ih=>
  intro a b s x y m hab hok ha hb hs;have hN:a<=k/\b<=k:=by have:=ha.pos;have:=hb.pos;omega
  cases x with
  |var p=>
   cases y with
   |var q=>
    rw [zI];exact unifyVars_ends hM k k _ ih a b s p q m hab hN (hok 1) ha hb hs
   |node g bs=>
    rw [zI];obtain ⟨r,h1,h2⟩:=unifyMatch_ends hM k k _ ih a b s p (.node g bs) m hab hN.2 (hok 1) ha hb hs;exact ⟨r,h1,h2.mono (by omega)⟩
  |node f as=>
   cases y with
   |var q=>
    rw [zI];obtain ⟨r,h1,h2⟩:=unifyMatch_ends hM k k _ ih b a s q (.node f as) m (by omega) hN.1 (hok 1) hb ha hs;exact ⟨r,h1,h2.mono (by omega)⟩
   |node g bs=>
    rw [zI];exact unifyNode_ends k _ ih a b s f as g bs m hab hok ha hb hs
end Uni
end
