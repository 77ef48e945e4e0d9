/- R0, W0, G0, G1 -/
import Derived.OrdersHeld
import Derived.Still
import Derived.Tactics
import Derived.Deep.RegionHeld3
import Derived.WalkKit
import Derived.WalkSpells
import Derived.WalkLawsBesides
import Derived.BigQuiet
import Derived.StillTailTactics
import Derived.Lib.Hide
import Derived.Maps.RangeRun
import Derived.LaidEqlPtr
import Derived.Test.YtpekidjfbinekaaGreatDoorProg
import Derived.Test.YtpekidjfbinekaaGreatDoorA00
set_option maxRecDepth 100000
set_option maxHeartbeats 60000000
set_option linter.all false
section
namespace Go
section
variable {P:Program}{ops:Array Oper}{Q:Exit->Act->World->Prop}{md:Region.Mode}{S:World->Prop}
def wpAnyG (P:Program)(md:Region.Mode)(ops:Array Oper)(Q:Exit->Act->World->Prop)(S:World->Prop)(T:Nat->Bool):Nat->Array Bool->Act->World->Prop
 |0,listed,a,w=>Region.ready md ops listed= []/\Q .normal a w
 |fuel + 1,listed,a,w=>
  (Region.ready md ops listed= []->Q .normal a w)/\
  ∀i∈Region.ready md ops listed,wpOp P ops Q i (fun a' w'=>(T i=true->S w')/\wpAnyG P md ops Q S T fuel (listed.setIfInBounds i true) a' w') a w
theorem wpAny_of_G {T:Nat->Bool}: ∀(fuel:Nat)(listed:Array Bool)(a:Act)(w:World),wpAnyG P md ops Q S T fuel listed a w->wpAny P md ops Q fuel listed a w
 |0,_,_,_,h=>h
 |fuel + 1,_,_,_,h=>⟨h.1,fun i hi=>wpOp_mono (fun a' w' h'=>wpAny_of_G fuel _ a' w' h'.2) (h.2 i hi)⟩
theorem wpAnyG_first {T:Nat->Bool}{i:Nat}{oi:Oper}{v:Value}(hi:ops[i]?=some oi)(hsel: ∀(j:Nat)(o:Oper) cs b,ops[j]?=some o->o.op≠ .select cs b)
 (hQ: ∀c a w,Q (.panic c) (a.put oi.dst v) w->Q (.panic c) a w)
 (hT: ∀j oj,ops[j]?=some oj->j≠i->T j=false-> ∃e∈oj.after,Region.binds md e=true/\e.on=i):
 ∀(fuel:Nat) (listed:Array Bool) (a:Act) (w:World),
  (∀j oj,ops[j]?=some oj->j≠i->listed.getD j true=false->(∀e∈oj.after,Region.binds md e=true->e.on≠i)->oi.apart ops oj=true)->
  i∈Region.ready md ops listed->YieldsIf P ops S oi v a->S w->
  wpAnyG P md ops Q S T fuel (listed.setIfInBounds i true) (a.put oi.dst v) w->wpAnyG P md ops Q S T (fuel + 1) listed a w:=by
 intro fuel
 induction fuel with
 |zero=>
  intro listed a w _ hr hy hS H;refine ⟨fun h=>(by rw [h] at hr;cases hr),fun j hj=> ?_⟩;by_cases hji:j=i
  ·subst hji;exact hy.wpOp hi hS ⟨fun _=>hS,H⟩
  ·have:=ready_mono hj hji
   rw [H.1] at this;cases this
 |succ fuel ih=>
  intro listed a w hfree hr hy hS H;refine ⟨fun h=>(by rw [h] at hr;cases hr),fun j hj=> ?_⟩;by_cases hji:j=i
  ·subst hji;exact hy.wpOp hi hS ⟨fun _=>hS,H⟩
  ·have h1:=H.2 j (ready_mono hj hji)
   obtain ⟨hjun,oj,hoj,hall⟩:=mem_ready.1 hj;have hnot: ∀e∈oj.after,Region.binds md e=true->e.on≠i:=fun e he hb heq=>by
    have h1:=hall e he hb;have h0:=(mem_ready.1 hr).1;rw [heq] at h1;rcases Nat.lt_or_ge i listed.size with h' | h'
    ·simp [h'] at h0 h1;rw [h0] at h1;cases h1
    ·simp [Array.getElem?_eq_none h'] at h1
   have hTj:T j=true:=by
    cases hTj:T j with
    |true=>rfl
    |false=>
     obtain ⟨e,he,hb,ho⟩:=hT j oj hoj hji hTj;exact absurd ho (hnot e he hb)
   have h2:=wpOp_putIf hoj (hfree j oj hoj hji hjun hnot) (fun cs b=>hsel i oi cs b hi) (fun cs b=>hsel j oj cs b hoj) hQ hy h1;have hfree': ∀k ok,ops[k]?=some ok->k≠i->(listed.setIfInBounds j true).getD k true=false->
    (∀e∈ok.after,Region.binds md e=true->e.on≠i)->oi.apart ops ok=true:=fun k ok hk hki hun hno=>by
    refine hfree k ok hk hki ?_ hno;by_cases hjk:j=k
    ·subst hjk;exact hjun
    ·rw [getD_set_ne true hjk] at hun;exact hun
   refine wpOp_mono (fun a' w' h3=>⟨h3.2.1,ih (listed.setIfInBounds j true) a' w' hfree' (ready_mono hr (Ne.symm hji)) h3.1 (h3.2.1 hTj) ?_⟩) h2;rw [Array.setIfInBounds_comm _ _ hji];exact h3.2.2
def planG (P:Program)(ops:Array Oper)(Q:Exit->Act->World->Prop)(S:World->Prop)(T:Nat->Bool):List (Nat × Bool)->Act->World->Prop
 |[],a,w=>Q .normal a w
 |(i,true)::l,a,w=>S w/\ ∃o v,ops[i]?=some o/\YieldsIf P ops S o v a/\planG P ops Q S T l (a.put o.dst v) w
 |(i,false)::l,a,w=>wpOp P ops Q i (fun a' w'=>(T i=true->S w')/\planG P ops Q S T l a' w') a w
def planB (ops:Array Oper):List (Nat × Bool)->Array Bool->Bool
 |[],listed=>(Region.ready .any ops listed).isEmpty
 |(i,true)::l,listed=>(Region.ready .any ops listed).contains i && Region.free .any ops listed i && planB ops l (listed.setIfInBounds i true)
 |(i,false)::l,listed=>(Region.ready .any ops listed== [i]) && planB ops l (listed.setIfInBounds i true)
def lateB (ops:Array Oper)(fl:List (Nat × Bool))(late:List Nat):Bool:=
 late.all fun j=>fl.all fun i=> !i.2 || match ops[j]? with
  |some oj=>j==i.1 || oj.after.any fun e=>Region.binds .any e && e.on==i.1
  |none=>true
theorem lateB_spec {fl:List (Nat × Bool)}{late:List Nat}(h:lateB ops fl late=true){i:Nat}(hi:(i,true)∈fl)(j:Nat)(oj:Oper)(hj:ops[j]?=some oj)(hji:j≠i)(hT:(!late.contains j)=false):
 ∃e∈oj.after,Region.binds .any e=true/\e.on=i:=by
 simp only [lateB,List.all_eq_true] at h;have h1:=h j (by simpa using hT) (i,true) hi;simp only [hj,Bool.or_eq_true,beq_iff_eq,hji,false_or,Array.any_eq_true',Bool.not_true,Bool.false_eq_true] at h1;obtain ⟨e,he,hb⟩:=h1;simp only [Bool.and_eq_true,beq_iff_eq] at hb;exact ⟨e,he,hb.1,hb.2⟩
theorem planG_sound {T:Nat->Bool}(hs:Region.noSelect ops=true)(hQ: ∀c a a' w,Q (.panic c) a w->Q (.panic c) a' w):
 ∀(pl:List (Nat × Bool)) (fuel:Nat) (listed:Array Bool) (a:Act) (w:World),
  (∀i,(i,true)∈pl-> ∀j oj,ops[j]?=some oj->j≠i->T j=false-> ∃e∈oj.after,Region.binds .any e=true/\e.on=i)->
  planB ops pl listed=true->pl.length<=fuel->planG P ops Q S T pl a w->wpAnyG P .any ops Q S T fuel listed a w:=by
 intro pl
 induction pl with
 |nil=>
  intro fuel listed a w _ hB _ h;have hr:Region.ready .any ops listed= []:=by simpa [planB] using hB
  cases fuel with
  |zero=>exact ⟨hr,h⟩
  |succ fuel=>exact ⟨fun _=>h,by rw [hr];simp⟩
 |cons x pl ih=>
  intro fuel listed a w hT hB hl h;obtain ⟨i,b⟩:=x
  cases fuel with
  |zero=>simp at hl
  |succ fuel=>
   cases b with
   |true=>
    simp only [planB,Bool.and_eq_true] at hB;obtain ⟨⟨h1,h2⟩,h3⟩:=hB;obtain ⟨hS,o,v,ho,hy,hrest⟩:=h;exact wpAnyG_first ho (Region.noSelect_spec hs) (fun c a w h=>hQ c _ _ w h) (fun j oj hj hji=>hT i (by simp) j oj hj hji) fuel listed a w
     (Region.free_spec ho h2) (by simpa using h1) hy hS (ih fuel _ _ _ (fun i hi=>hT i (by simp [hi])) h3 (by simpa using hl) hrest)
   |false=>
    simp only [planB,Bool.and_eq_true,beq_iff_eq] at hB;refine ⟨fun h0=>(by rw [hB.1] at h0;cases h0),fun j hj=> ?_⟩;rw [hB.1] at hj;obtain rfl:j=i:=by simpa using hj
    exact wpOp_mono (fun a' w' h'=>⟨h'.1,ih fuel _ a' w' (fun i hi=>hT i (by simp [hi])) hB.2 (by simpa using hl) h'.2⟩) h
theorem zG {id:Nat}{l:List Oper}{a:Act}{w:World}(S:World->Prop)(pl:List (Nat × Bool))(late:List Nat)(hm:P.follows .mixedOrders=true)
 (hs:Region.noSelect l.toArray=true) (hB:planB l.toArray pl (Array.replicate l.toArray.size false)=true) (hL:lateB l.toArray pl late=true) (hn:pl.length<=l.toArray.size)
 (h:planG P l.toArray (NoPanic Q) S (fun i=> !late.contains i) pl a w.drew):(Code.region id l.toArray true).wp P Q a w:=
 wp_region_noPanic (wp_region_any hm (wpAny_of_G _ _ _ _ (planG_sound hs (fun _ _ _ _ h=>h.elim) pl _ _ _ _ (fun _ hi j oj hj hji hT=>lateB_spec hL hi j oj hj hji hT) hB hn h)))
theorem zO {T:Nat->Bool}{a:Act}{w:World}(h:Q .normal a w):planG P ops Q S T [] a w:=h
theorem zH {T:Nat->Bool}{i:Nat}{pl:List (Nat × Bool)}{a:Act}{w:World}{o:Oper}(v:Value)(ho:ops[i]?=some o)(hS:S w)
 (h1: ∀w',S w'->if Region.wanted o (yielded ops a.tmps)=true then (execOp a.eval o).run P w'= .ok (.value v) w' else v=undef)
 (h:planG P ops Q S T pl (a.put o.dst v) w):planG P ops Q S T ((i,true)::pl) a w:=by
 refine ⟨hS,o,v,ho,?_,h⟩;unfold YieldsIf;by_cases hwd:Region.wanted o (yielded ops a.tmps)=true
 ·exact .inl ⟨hwd,fun w' hw'=>by have:=h1 w' hw';rwa [if_pos hwd] at this⟩
 ·have:=h1 w hS
  rw [if_neg hwd] at this;exact .inr ⟨by simpa using hwd,this⟩
def NextG (A:Prop)(S:World->Prop)(K:Act->World->Prop)(Q:Exit->Act->World->Prop):Exit->Act->World->Prop
 |.normal,a,w=>(A->S w)/\K a w
 |e,a,w=>Q e a w
theorem zB {T:Nat->Bool}{i:Nat}{pl:List (Nat × Bool)}{a:Act}{w:World}{o:Oper}(ho:ops[i]?=some o)
 (h:wpList P ops (NextG (T i=true) S (planG P ops Q S T pl) Q) [o] a w):planG P ops Q S T ((i,false)::pl) a w:=by
 unfold planG wpOp;simp only [ho];unfold wpList at h;have up: ∀(K:Act->World->Prop) (r:Result Next),o.upon P a (fun a w=>(T i=true->S w)/\K a w) (NextG (T i=true) S K Q) r->o.upon P a (fun a w=>(T i=true->S w)/\K a w) Q r:=by
  intro K r hr
  cases r with
  |ok n w'=>cases n <;>simp only [Oper.upon] at hr ⊢ <;>exact hr
  |halt x w'=>cases x <;>simp only [Oper.upon] at hr ⊢ <;>exact hr
 split
 ·rename_i hw
  rw [if_pos hw] at h;rcases h with h | ⟨h1,a0,w0,h2⟩
  ·exact .inl (up _ _ h)
  ·exact .inr ⟨h1,a0,w0,h2⟩
 ·rename_i hw
  rw [if_neg hw] at h;exact h
end
end Go
end
namespace Go.Proofs.YtpekidjfbinekaaGreatDoor
open Go.RowKit Uni
theorem hid {p:Prop}(h:p):Go.RowKit.Hid p:=Lib.hid h
theorem bl {w:World}{a:Addr}{o:Option Value}{v:Value}(h:w.cell? a=o)(e:o=some v:=by rfl):a.block<w.heap.size:=World.block_lt_of_cell? _ _ (h.trans e)
structure Fr (M:Nat->Prop) (w w':World):Prop where
 os:w'.os=w.os
 tape:w'.tape=w.tape
 output:w'.output=w.output
 size:w.heap.size<=w'.heap.size
 block: ∀k,k < w.heap.size-> ¬M k->w'.heap[k]?=w.heap[k]?
theorem Fr.refl (M:Nat->Prop)(w:World):Fr M w w:=⟨rfl,rfl,rfl,Nat.le_refl _,fun _ _ _=>rfl⟩
theorem Fr.trans {M:Nat->Prop}{a b c:World}(h:Fr M a b)(k:Fr M b c):Fr M a c:=
 ⟨k.os.trans h.os,k.tape.trans h.tape,k.output.trans h.output,Nat.le_trans h.size k.size,fun i hi hm=>(k.block i (Nat.lt_of_lt_of_le hi h.size) hm).trans (h.block i hi hm)⟩
theorem Fr.mono {M M':Nat->Prop}{a b:World}(h:Fr M a b)(hm: ∀k,k < a.heap.size->M k->M' k):Fr M' a b:=⟨h.os,h.tape,h.output,h.size,fun k hk hk'=>h.block k hk fun h'=>hk' (hm k hk h')⟩
theorem Fr.drew {M:Nat->Prop}{a w:World}(h:Fr M a w):Fr M a w.drew:=⟨h.os,h.tape,h.output,h.size,h.block⟩
theorem Fr.alloc {M:Nat->Prop}{a w:World}(h:Fr M a w)(o:Obj):Fr M a (w.alloc o):=
 h.trans ⟨rfl,rfl,rfl,by simp,fun k hk _=>Below.heap_alloc _ _ _ hk⟩
theorem Fr.setCell {M:Nat->Prop}{a w:World}(h:Fr M a w){p:Addr}(hp:M p.block\/a.heap.size<=p.block)(u:Value):Fr M a (w.setCell p u):=
 ⟨h.os,h.tape,h.output,by simpa [World.setCell] using h.size,fun k hk hm=>by
  rw [Below.heap_setCell _ _ _ _ (fun e=>by subst e;rcases hp with hp | hp;exact hm hp;omega)];exact h.block k hk hm⟩
theorem Fr.cell {M:Nat->Prop}{w w':World}(h:Fr M w w'){p:Addr}{v:Value}(hm: ¬M p.block)(hc:w.cell? p=some v):w'.cell? p=some v:=by
 have hp:p.block < w.heap.size:=by
  rcases Nat.lt_or_ge p.block w.heap.size with h | h
  ·exact h
  ·simp [World.cell?,Array.getElem?_eq_none h] at hc
 rw [World.cell?_of_block (w:=w) (h.block p.block hp hm)];exact hc
theorem Fr.of_below {w w':World}(h:Below w.heap.size w w')(M:Nat->Prop):Fr M w w':=⟨h.os,h.tape,h.output,h.size,fun k hk _=>h.block k hk⟩
structure TyV where
 k:Int
 n:Int
 c:Int
 v:Bool
 a:Option Addr
 len:Nat
 cap:Nat
 nm:ByteArray
def TyV.val (x:TyV):Value:= .agg #[.int .i64 x.k,.int .i64 x.n,.int .i64 x.c,.bool x.v,.slice x.a x.len x.cap,.string x.nm]
structure Elem6 (w:World) (M:Nat->Prop) (b off:Nat) (i:Nat) (y:TyV):Prop where
 m: ¬M b
 c0:w.cell? ⟨b,off + i * 6,none⟩=some (.int .i64 y.k)
 c1:w.cell? ⟨b,off + i * 6 + 1,none⟩=some (.int .i64 y.n)
 c2:w.cell? ⟨b,off + i * 6 + 2,none⟩=some (.int .i64 y.c)
 c3:w.cell? ⟨b,off + i * 6 + 3,none⟩=some (.bool y.v)
 c4:w.cell? ⟨b,off + i * 6 + 4,none⟩=some (.slice y.a y.len y.cap)
 c5:w.cell? ⟨b,off + i * 6 + 5,none⟩=some (.string y.nm)
def xB (w:World)(M:Nat->Prop)(a:Option Addr)(xs:List TyV):Prop:=
 xs= []\/ ∃b off,a=some ⟨b,off,none⟩/\ ∀i y,xs[i]?=some y->Elem6 w M b off i y
structure Shape (x:TyV) (f:Lab) (xs:List TyV):Prop where
 k:x.k=f.kind
 k10:f.kind<=10
 k2:f.kind≠2
 n:if f.kind=0\/f.kind=1\/f.kind=3\/f.kind=6\/f.kind=8 then x.n=f.n else f.n=0
 c:if f.kind=10 then x.c=f.cnt/\x.v=f.vari else f.cnt=0/\f.vari=false
 names:f.names=if f.kind=9 then xs.map (fun y=>y.nm.toList) else []
 len:xs.length=x.len
 bound:x.len<=x.cap/\x.len<=1954687338211/\x.cap<=maxLen
inductive RT (w:World) (M:Nat->Prop):TyV->Tm->Prop
 |var (x:TyV) (p:Nat):x.k=2->x.n=p->x.len=0->x.cap<=maxLen->RT w M x (.var p)
 |node (x:TyV) (f:Lab) (xs:List TyV) (ts:List Tm):Shape x f xs->ts.length=xs.length->xB w M x.a xs->
   (∀(i:Nat) (y:TyV) (t:Tm),xs[i]?=some y->ts[i]?=some t->RT w M y t)->RT w M x (.node f ts)
theorem Elem6.keep {w w':World}{M:Nat->Prop}{b off i:Nat}{y:TyV}(h:Elem6 w M b off i y)(f:Fr M w w'):Elem6 w' M b off i y:=
 ⟨h.m,f.cell h.m h.c0,f.cell h.m h.c1,f.cell h.m h.c2,f.cell h.m h.c3,f.cell h.m h.c4,f.cell h.m h.c5⟩
theorem xB.keep {w w':World}{M:Nat->Prop}{a:Option Addr}{xs:List TyV}(h:xB w M a xs)(f:Fr M w w'):xB w' M a xs:=by
 rcases h with h | ⟨b,off,ha,h⟩
 ·exact .inl h
 ·exact .inr ⟨b,off,ha,fun i y hy=>(h i y hy).keep f⟩
theorem RT.keep {w w':World}{M:Nat->Prop}{x:TyV}{t:Tm}(h:RT w M x t)(f:Fr M w w'):RT w' M x t:=by
 induction h with
 |var x p h1 h2 h3 h4=>exact .var x p h1 h2 h3 h4
 |node x f xs ts h1 h2 h3 _ ih=>exact .node x f xs ts h1 h2 (h3.keep ‹_›) ih
theorem xB.elem {w:World}{M:Nat->Prop}{a:Option Addr}{xs:List TyV}(h:xB w M a xs){k:Nat}(hk:k < xs.length):
 ∃y b off,xs[k]?=some y/\a=some ⟨b,off,none⟩/\Elem6 w M b off k y:=by
 rcases h with h | ⟨b,off,ha,h⟩
 ·subst h;simp at hk
 ·exact ⟨xs[k],b,off,by simp [hk],ha,h k _ (by simp [hk])⟩
def kids:Tm->List Tm
 |.var _=> []
 |.node _ l=>l
structure Flat (w:World) (M:Nat->Prop) (x:TyV) (xs:List TyV):Prop where
 elems:xB w M x.a xs
 len:xs.length=x.len
 bound:x.len<=x.cap/\x.len<=1954687338211/\x.cap<=maxLen
theorem Flat.keep {w w':World}{M:Nat->Prop}{x:TyV}{xs:List TyV}(h:Flat w M x xs)(f:Fr M w w'):Flat w' M x xs:=⟨h.elems.keep f,h.len,h.bound⟩
def Head (x:TyV)(xs:List TyV):Tm->Prop
 |.var p=>x.k=2/\x.n=p
 |.node f _=>Shape x f xs
theorem RT.flat {w:World}{M:Nat->Prop}{x:TyV}{t:Tm}(h:RT w M x t): ∃xs,Flat w M x xs/\(kids t).length=xs.length/\
 (∀(i:Nat) (y:TyV) (u:Tm),xs[i]?=some y->(kids t)[i]?=some u->RT w M y u)/\
 Head x xs t:=by
 cases h with
 |var _ p h1 h2 h3 h4=>exact ⟨[],⟨.inl rfl,h3.symm,by omega,by omega,h4⟩,rfl,fun i y u hy=>by simp at hy,h1,h2⟩
 |node _ f xs ts h1 h2 h3 h4=>exact ⟨xs,⟨h3,h1.len,h1.bound⟩,h2,h4,h1⟩
theorem Fr.sub {M:Nat->Prop}{a b:World}(h:Fr (fun _=>False) a b):Fr M a b:=h.mono fun _ _ h=>h.elim
theorem yL {b c:Bool}(h:b=c):Ending.returned (.bool b)= .returned (.bool c):=by rw [h]
theorem Fr.drawn {M:Nat->Prop}{a w:World}(h:Fr M a w)(n:Nat):Fr M a (w.drewN n):=h.trans ⟨rfl,rfl,rfl,Nat.le_refl _,fun _ _ _=>rfl⟩
theorem yE:Tryz.prog.follows .mixedOrders=true:=by kernel_rfl
theorem zP {id:Nat}{Q:Exit->Act->World->Prop}{a:Act}{w:World}{l:List Oper}(n:Nat)(hB:Region.lexTailB .any l.toArray n=true)
 (h:wpStill Tryz.prog l.toArray w.drew (fun a'=>wpList Tryz.prog l.toArray Q (l.drop n) a' w.drew) (l.take n) a):(Code.region id l.toArray true).wp Tryz.prog Q a w:=
 wp_region_still_tail n yE hB h
theorem Fr.transNew {M M':Nat->Prop}{a b c:World}(h:Fr M a b)(k:Fr M' b c)(hM: ∀x,M' x->M x\/a.heap.size<=x):Fr M a c:=
 ⟨k.os.trans h.os,k.tape.trans h.tape,k.output.trans h.output,Nat.le_trans h.size k.size,fun i hi hm=>
  (k.block i (Nat.lt_of_lt_of_le hi h.size) fun hk=>by rcases hM i hk with h | h;exact hm h;omega).trans (h.block i hi hm)⟩
theorem Fr.of_grown {w w':World}{row:Option Nat}(hg:w.grownBy w' row):Fr (fun b=>row=some b) w w':=⟨hg.os,hg.tape,hg.output,hg.size,fun k hk hn=>hg.block k hk fun h=>hn h.symm⟩
theorem Fr.heap {M:Nat->Prop}{w w':World}(h:Fr M w w'){b:Nat}{o:Obj}(hm: ¬M b)(hb:w.heap[b]?=some o):w'.heap[b]?=some o:=by
 rw [h.block b (Array.getElem?_eq_some_iff.1 hb).1 hm];exact hb
theorem heap_setCell {w:World}{a:Addr}{c:Array Value}{t:TypeId}{fr:Nat × Nat}{v:Value}(h:w.heap[a.block]?=some (.cells c t fr))(hs:a.spot=none):(w.setCell a v).heap[a.block]?=some (.cells (c.setIfInBounds a.off v) t fr):=by
 simp [World.setCell,Array.getElem?_modify,h,hs]
theorem zA {w:World}{b:Nat}{c:Array Value}{t:TypeId}{fr:Nat × Nat}(h:w.heap[b]?=some (.cells c t fr))(i:Nat):w.cell? ⟨b,i,none⟩=c[i]?:=by simp [World.cell?,h]
theorem zC {w:World}{b:Nat}{c:Array Value}{t:TypeId}(h:w.heap[b]?=some (.cells c t (0,0)))(i:Nat):w.frozen? ⟨b,i,none⟩=false:=by simp [World.frozen?,h]
theorem RT.mono {w:World}{M M':Nat->Prop}{x:TyV}{t:Tm}(h:RT w M x t)(hM: ∀b,M' b->M b):RT w M' x t:=by
 induction h with
 |var x p h1 h2 h3 h4=>exact .var x p h1 h2 h3 h4
 |node x f xs ts h1 h2 h3 _ ih=>
  refine .node x f xs ts h1 h2 ?_ ih;rcases h3 with h3 | ⟨b,off,ha,h3⟩
  ·exact .inl h3
  ·exact .inr ⟨b,off,ha,fun i y hy=>⟨fun hb=>(h3 i y hy).m (hM b hb),(h3 i y hy).c0,(h3 i y hy).c1,(h3 i y hy).c2,(h3 i y hy).c3,(h3 i y hy).c4,(h3 i y hy).c5⟩⟩
theorem zS (w:World)(a b:Obj):((w.alloc a).alloc b).heap[w.heap.size + 1]?=some b:=by
 have h:=heap_alloc_new (w.alloc a) b
 rwa [World.size_alloc] at h
theorem heap_three (w:World)(a b c:Obj):(((w.alloc a).alloc b).alloc c).heap[w.heap.size + 1 + 1]?=some c:=by
 have h:=heap_alloc_new ((w.alloc a).alloc b) c
 rwa [World.size_alloc,World.size_alloc] at h
theorem Fr.set6 {M:Nat->Prop}{a w:World}(h:Fr M a w){b:Nat}(hb:M b\/a.heap.size<=b)(v0 v1 v2 v3 v4 v5:Value):
 Fr M a ((((((w.setCell ⟨b,0,none⟩ v0).setCell ⟨b,1,none⟩ v1).setCell ⟨b,2,none⟩ v2).setCell ⟨b,3,none⟩ v3).setCell ⟨b,4,none⟩ v4).setCell ⟨b,5,none⟩ v5):=
 (((((h.setCell hb v0).setCell hb v1).setCell hb v2).setCell hb v3).setCell hb v4).setCell hb v5
theorem heap_set6 {w:World}{b:Nat}{u0 u1 u2 u3 u4 u5:Value}{t:TypeId}{fr:Nat × Nat}(h:w.heap[b]?=some (.cells #[u0,u1,u2,u3,u4,u5] t fr))(v0 v1 v2 v3 v4 v5:Value):
 (((((((w.setCell ⟨b,0,none⟩ v0).setCell ⟨b,1,none⟩ v1).setCell ⟨b,2,none⟩ v2).setCell ⟨b,3,none⟩ v3).setCell ⟨b,4,none⟩ v4).setCell ⟨b,5,none⟩ v5)).heap[b]?=some (.cells #[v0,v1,v2,v3,v4,v5] t fr):=by
 have h0:=heap_setCell (a:=⟨b,0,none⟩) (v:=v0) h rfl;have h1:=heap_setCell (a:=⟨b,1,none⟩) (v:=v1) h0 rfl;have h2:=heap_setCell (a:=⟨b,2,none⟩) (v:=v2) h1 rfl;have h3:=heap_setCell (a:=⟨b,3,none⟩) (v:=v3) h2 rfl;have h4:=heap_setCell (a:=⟨b,4,none⟩) (v:=v4) h3 rfl;have h5:=heap_setCell (a:=⟨b,5,none⟩) (v:=v5) h4 rfl;simpa using h5
theorem ret6 {fn:Func}{s:Nat}{tmps:Array Value}{W:World}{b:Nat}{v0 v1 v2 v3 v4 v5:Value}{fr:Nat × Nat}(h:fn.results= #[.cell s 26])(ht:tmps.getD s undef= .pointer (some ⟨b,0,none⟩))
 (hb:W.heap[b]?=some (.cells #[v0,v1,v2,v3,v4,v5] 26 fr)):(results fn tmps).run Tryz.prog W= .ok (.agg #[v0,v1,v2,v3,v4,v5]) W:=by
 have q0:W.cell? ⟨b,0,none⟩=some v0:=zA hb 0;have q1:W.cell? ⟨b,1,none⟩=some v1:=zA hb 1;have q2:W.cell? ⟨b,2,none⟩=some v2:=zA hb 2;have q3:W.cell? ⟨b,3,none⟩=some v3:=zA hb 3;have q4:W.cell? ⟨b,4,none⟩=some v4:=zA hb 4;have q5:W.cell? ⟨b,5,none⟩=some v5:=zA hb 5;have ht':(tmps[s]?).getD undef= .pointer (some ⟨b,0,none⟩):=by rw [<-ht];simp
 simp [results,h,ht',go_sem,q0,q1,q2,q3,q4,q5]
open Go.ChangeMaps (setBlock)
theorem under244:Tryz.prog.underlying 244=some (.map 95 245):=by kernel_rfl
theorem under95:Tryz.prog.underlying 95=some (.pointer 192):=by kernel_rfl
theorem under245:Tryz.prog.underlying 245=some (.pointer 103):=by kernel_rfl
theorem info192:(Tryz.prog.info? 192).map (fun i=>i.size)=some 5:=by kernel_rfl
def ent (tp hd:Nat->Addr)(p:Nat):MapEntry:=⟨.pointer (some (tp p)),.pointer (some (hd p)),p⟩
def zY (tp hd:Nat->Addr)(n:Nat):List MapEntry:=(List.range' 0 n).map (ent tp hd)
theorem entsOf_get {tp hd:Nat->Addr}{n p:Nat}(hp:p < n):(zY tp hd n)[p]?=some (ent tp hd p):=by
 simp [zY,hp]
structure Keys (w:World) (tp:Nat->Addr) (n:Nat):Prop where
 cells: ∀p,p < n-> ∃c t,w.heap[(tp p).block]?=some (.cells c t (0,0))
 inj: ∀p q,p < n->q < n->tp p=tp q->p=q
theorem run_key_eq {w:World}{a b:Addr}{ca cb:Array Value}{ta tb:TypeId}(ha:w.heap[a.block]?=some (.cells ca ta (0,0)))(hb:w.heap[b.block]?=some (.cells cb tb (0,0))):
 (Op.equal 95 (.pointer (some a)) (.pointer (some b))).run Tryz.prog w= .ok (decide (a=b)) w:=by
 obtain ⟨j,hj,hs⟩: ∃j,Tryz.prog.info? 192=some j/\j.size=5:=by
  have h:=info192
  cases h1:Tryz.prog.info? 192 with
  |none=>rw [h1] at h;cases h
  |some j=>rw [h1] at h;exact ⟨j,rfl,by simpa using h⟩
 have key: ∀d:Nat,(Op.equalIn (d + 1) 95 (.pointer (some a)) (.pointer (some b))).run Tryz.prog w= .ok (decide (a=b)) w:=fun d=>by
  by_cases hab:a=b
  ·subst hab
   simp [Op.equalIn,run_underlying under95,sizeOf,typeInfo,hj,run_sameAddr_same]
  ·simp [Op.equalIn,run_underlying under95,sizeOf,typeInfo,hj,hs,hab,run_sameAddr_other w hab ha hb]
 unfold Op.equal;exact key 9999
theorem run_find {w:World}{tp hd:Nat->Addr}{n:Nat}(K:Keys w tp n){p:Nat}(hp:p < n): ∀m i,i + m=n->i<=p->
 (Instr.findAsking 95 (.pointer (some (tp p))) ((List.range' i m).map (ent tp hd)) i).run Tryz.prog w= .ok (some (p,.pointer (some (hd p)))) w:=by
 intro m
 induction m with
 |zero=>intro i h1 h2;omega
 |succ m ih=>
  intro i h1 h2;rw [List.range'_succ,List.map_cons,Instr.findAsking];obtain ⟨c1,t1,h3⟩:=K.cells p hp;obtain ⟨c2,t2,h4⟩:=K.cells i (by omega);have e:=run_key_eq h3 h4;rw [Sem.run_bind];show Result.andThen ((Op.equal 95 (.pointer (some (tp p))) (.pointer (some (tp i)))).run Tryz.prog w) _=_;rw [e];by_cases hip:i=p
  ·subst hip
   simp [Result.andThen,ent]
  ·have hne: ¬tp p=tp i:=fun h=>hip (K.inj p i hp (by omega) h).symm
   simp only [hne,decide_false,Result.andThen];exact ih (i + 1) (by omega) (by omega)
theorem run_find_none {w:World}{tp hd:Nat->Addr}{n:Nat}(K:Keys w tp n){k:Nat}(hk:k < n): ∀m i,i + m=k->
 (Instr.findAsking 95 (.pointer (some (tp k))) ((List.range' i m).map (ent tp hd)) i).run Tryz.prog w= .ok none w:=by
 intro m
 induction m with
 |zero=>intro i h1;rfl
 |succ m ih=>
  intro i h1;rw [List.range'_succ,List.map_cons,Instr.findAsking];obtain ⟨c1,t1,h3⟩:=K.cells k hk;obtain ⟨c2,t2,h4⟩:=K.cells i (by omega);have e:=run_key_eq h3 h4;rw [Sem.run_bind];show Result.andThen ((Op.equal 95 (.pointer (some (tp k))) (.pointer (some (tp i)))).run Tryz.prog w) _=_;rw [e];have hne: ¬tp k=tp i:=fun h=>by have:=K.inj k i hk (by omega) h;omega
  simp only [hne,decide_false,Result.andThen];exact ih (i + 1) (by omega)
theorem findNow_ptr (a:Addr)(tp hd:Nat->Addr)(i m:Nat):Instr.findNow (.pointer 192) (.pointer (some a)) ((List.range' i (m + 1)).map (ent tp hd)) 0=none:=by
 rw [List.range'_succ,List.map_cons,Instr.findNow];rfl
theorem run_findKey {w:World}{tp hd:Nat->Addr}{n:Nat}(K:Keys w tp n){p:Nat}(hp:p < n):
 (Instr.findKey 95 (.pointer (some (tp p))) (zY tp hd n)).run Tryz.prog w= .ok (some (p,.pointer (some (hd p)))) w:=by
 obtain ⟨m,rfl⟩: ∃m,n=m + 1:=⟨n - 1,by omega⟩;unfold Instr.findKey zY;rw [Sem.run_bind,run_underlying under95];simp only [Result.andThen,findNow_ptr];exact run_find K hp (m + 1) 0 (by omega) (by omega)
theorem run_findKey_none {w:World}{tp hd:Nat->Addr}{n:Nat}(K:Keys w tp n){k:Nat}(hk:k < n):
 (Instr.findKey 95 (.pointer (some (tp k))) (zY tp hd k)).run Tryz.prog w= .ok none w:=by
 unfold Instr.findKey zY;rw [Sem.run_bind,run_underlying under95]
 cases k with
 |zero=>rfl
 |succ k=>
  simp only [Result.andThen,findNow_ptr];exact run_find_none K hk (k + 1) 0 (by omega)
theorem run_checkKey (b:Bool)(a:Addr)(w:World):(Instr.checkKey b 10000 95 (.pointer (some a))).run Tryz.prog w= .ok () w:=by
 have key: ∀d,(Instr.checkKey b (d + 1) 95 (.pointer (some a))).run Tryz.prog w= .ok () w:=fun d=>by
  simp [Instr.checkKey,run_underlying under95]
 exact key 9999
theorem xC {w:World}{tp hd:Nat->Addr}{n bm:Nat}(K:Keys w tp n)(hm:w.heap[bm]?=some (.map (zY tp hd n).toArray n)){p:Nat}(hp:p < n)(c:Bool):
 (Instr.lookup 244 (.map (some bm)) (.pointer (some (tp p))) c).run Tryz.prog w= .ok (if c then .tuple #[.pointer (some (hd p)),.bool true] else .pointer (some (hd p))) w:=by
 unfold Instr.lookup;simp only [Sem.run_bind,run_underlying under244,MapKept.run_getObj_map hm,run_checkKey,Result.andThen_ok,run_findKey K hp,Sem.run_pure]
theorem run_setObj_map {w:World}{r:Nat}{es:Array MapEntry}{c:Nat}(hr:w.heap[r]?=some (.map es c))(o':Obj):(setObj r o').run Tryz.prog w= .ok () (setBlock w r o'):=by
 simp [setObj,Sem.run,hr,setBlock]
def updA (hd:Nat->Addr)(p:Nat)(h:Addr):Nat->Addr:=fun q=>if q=p then h else hd q
theorem entsOf_modify {tp hd:Nat->Addr}{n p:Nat}{h:Addr}(hp:p < n):(zY tp hd n).toArray.modify p (fun e=> {e with key:= .pointer (some (tp p)),val:= .pointer (some h)})=(zY tp (updA hd p h) n).toArray:=by
 apply Array.ext
 ·simp [zY]
 ·intro i h1 h2
  have hi:i < n:=by simpa [zY] using h2
  rw [Array.getElem_modify];have g1:(zY tp hd n).toArray[i]'(by simpa [zY] using hi)=ent tp hd i:=by simp [zY]
  have g2:(zY tp (updA hd p h) n).toArray[i]'(by simpa [zY] using hi)=ent tp (updA hd p h) i:=by simp [zY]
  rw [g2]
  split
  ·subst_vars;rw [g1];simp [ent,updA]
  ·rename_i hne;rw [g1];simp [ent,updA,Ne.symm hne]
theorem run_update_h {w:World}{tp hd:Nat->Addr}{n bm:Nat}(K:Keys w tp n)(hm:w.heap[bm]?=some (.map (zY tp hd n).toArray n)){p:Nat}(hp:p < n)(h:Addr):
 (Instr.mapUpdate 244 (.map (some bm)) (.pointer (some (tp p))) (.pointer (some h))).run Tryz.prog w= .ok () (setBlock w bm (.map (zY tp (updA hd p h) n).toArray n)):=by
 have hk:(((zY tp hd n).toArray[p]?).map (·.key)).getD (.pointer (some (tp p)))= .pointer (some (tp p)):=by
  simp [entsOf_get hp,ent]
 unfold Instr.mapUpdate;simp only [Sem.run_bind,run_underlying under244,MapKept.run_getObj_map hm,run_checkKey,Result.andThen_ok,run_findKey K hp];rw [hk];simp only [Instr.keyThatStays,Instr.sameBits,beq_self_eq_true,if_true,Sem.run_pure,Result.andThen_ok,entsOf_modify hp];exact run_setObj_map hm _
theorem run_insert_h {w:World}{tp hd:Nat->Addr}{n k bm:Nat}(K:Keys w tp n)(hk:k < n)(hm:w.heap[bm]?=some (.map (zY tp hd k).toArray k))(h:Addr):
 (Instr.mapUpdate 244 (.map (some bm)) (.pointer (some (tp k))) (.pointer (some h))).run Tryz.prog w= .ok () (setBlock w bm (.map (zY tp (updA hd k h) (k + 1)).toArray (k + 1))):=by
 unfold Instr.mapUpdate;simp only [Sem.run_bind,run_underlying under244,MapKept.run_getObj_map hm,run_checkKey,Result.andThen_ok,run_findKey_none K hk];have e:(zY tp hd k).toArray.push {key:= .pointer (some (tp k)),val:= .pointer (some h),born:=k}=(zY tp (updA hd k h) (k + 1)).toArray:=by
  rw [List.push_toArray]
  congr 1
  unfold zY;rw [List.range'_concat,List.map_append]
  congr 1
  ·refine List.map_congr_left fun q hq=> ?_
   have:q < k:=by simpa using hq
   simp [ent,updA,show ¬q=k by omega]
  ·simp [ent,updA]
 rw [e];exact run_setObj_map hm _
noncomputable def xP (T:Nat):Bool:=match Tryz.prog.underlying T,Tryz.prog.info? T with
 |some (.pointer _),some i=>(match i.zero with | some (.pointer none)=>true | _=>false)
 |_,_=>false
theorem zD {T:TypeId}(h:xP T=true)(ty:TypeId)(v:Value)(x:TypeId)(w:World):
 (Instr.typeAssert (.iface ty v) x T true).run Tryz.prog w= .ok (if ty=T then .tuple #[v,.bool true] else .tuple #[.pointer none,.bool false]) w:=by
 unfold xP at h
 cases hu:Tryz.prog.underlying T with
 |none=>rw [hu] at h;cases h
 |some d=>
  cases hi:Tryz.prog.info? T with
  |none=>rw [hu,hi] at h;cases d <;>cases h
  |some i=>
   rw [hu,hi] at h
   cases d with
   |pointer e=>
    dsimp only at h
    split at h
    ·rename_i hz
     by_cases hty:ty=T
     ·subst hty
      simp [Instr.typeAssert,run_underlying hu]
     ·simp [Instr.typeAssert,run_underlying hu,hty,zeroValue,typeInfo,hi,hz]
    ·cases h
   |_=>cases h
theorem run_assert_nil {T:TypeId}(h:xP T=true)(x:TypeId)(w:World):
 (Instr.typeAssert .nilIface x T true).run Tryz.prog w= .ok (.tuple #[.pointer none,.bool false]) w:=by
 unfold xP at h
 cases hu:Tryz.prog.underlying T with
 |none=>rw [hu] at h;cases h
 |some d=>
  cases hi:Tryz.prog.info? T with
  |none=>rw [hu,hi] at h;cases d <;>cases h
  |some i=>
   rw [hu,hi] at h
   cases d with
   |pointer e=>
    dsimp only at h
    split at h
    ·rename_i hz
     simp [Instr.typeAssert,run_underlying hu,zeroValue,typeInfo,hi,hz]
    ·cases h
   |_=>cases h
theorem p283:xP 283=true:=by kernel_rfl
theorem p95:xP 95=true:=by kernel_rfl
theorem p106:xP 106=true:=by kernel_rfl
theorem p99:xP 99=true:=by kernel_rfl
theorem p150:xP 150=true:=by kernel_rfl
theorem p179:xP 179=true:=by kernel_rfl
theorem p146:xP 146=true:=by kernel_rfl
theorem p144:xP 144=true:=by kernel_rfl
theorem p156:xP 156=true:=by kernel_rfl
theorem p142:xP 142=true:=by kernel_rfl
theorem p134:xP 134=true:=by kernel_rfl
theorem p128:xP 128=true:=by kernel_rfl
theorem p148:xP 148=true:=by kernel_rfl
theorem zM (ty:TypeId)(pv:Value)(w:World)(h: ¬ty=283):Calls Tryz.prog 127 #[.iface ty pv] w fun e w'=>e= .returned (.iface ty pv)/\w'=w:=by
 have A:=zD p283;go_enter Tryz.func127,Tryz.ntmps127;go_wp2;go_ret;exact ⟨rfl,rfl⟩
theorem unalias_nil (w:World):Calls Tryz.prog 127 #[.nilIface] w fun e w'=>e= .returned .nilIface/\w'=w:=by
 have A:=fun x w=>run_assert_nil p283 x w
 go_enter Tryz.func127,Tryz.ntmps127;go_wp2;go_ret;exact ⟨rfl,rfl⟩
theorem yI (ty:TypeId)(pv:Value)(w:World)(h: ¬ty=283):Calls Tryz.prog 89 #[.iface ty pv] w fun e w'=>e= .returned (if ty=106 then pv else .pointer none)/\w'=w:=by
 have A:=zD p106;go_enter Tryz.func89,Tryz.ntmps89;go_wp2_with fail
 refine (zM ty pv _ h).mono ?_;rintro e w1 ⟨rfl,rfl⟩;by_cases h1:ty=106
 ·go_wp2
  go_ret;exact ⟨rfl,rfl⟩
 ·go_wp2
  go_ret;exact ⟨rfl,rfl⟩
theorem isTypeLit_any (ty:TypeId)(pv:Value)(w:World)(h: ¬ty=283):Calls Tryz.prog 163 #[.iface ty pv] w fun e w'=>e= .returned (.bool (decide (ty≠106/\ty≠95)))/\w'=w:=by
 have A:=zD p106;have A2:=zD p95;go_enter Tryz.func163,Tryz.ntmps163;go_wp2_with fail
 refine (zM ty pv _ h).mono ?_;rintro e w1 ⟨rfl,rfl⟩;by_cases h1:ty=106
 ·subst h1
  go_wp2;go_ret;exact ⟨rfl,rfl⟩
 ·by_cases h2:ty=95
  ·subst h2
   go_wp2;go_ret;exact ⟨rfl,rfl⟩
  ·go_wp2
   go_ret;exact ⟨by simp [h1,h2],rfl⟩
theorem wN (ty:TypeId)(pv:Value)(w:World)(h: ¬ty=283):Calls Tryz.prog 146 #[.iface ty pv] w fun e w'=>e= .returned (.bool (decide (ty=95)))/\w'=w:=by
 have A:=zD p95;go_enter Tryz.func146,Tryz.ntmps146;go_wp2_with fail
 refine (zM ty pv _ h).mono ?_;rintro e w1 ⟨rfl,rfl⟩;by_cases h1:ty=95
 ·subst h1
  go_wp2;go_ret;exact ⟨rfl,rfl⟩
 ·go_wp2
  go_ret;exact ⟨by simp [h1],rfl⟩
end Go.Proofs.YtpekidjfbinekaaGreatDoor
