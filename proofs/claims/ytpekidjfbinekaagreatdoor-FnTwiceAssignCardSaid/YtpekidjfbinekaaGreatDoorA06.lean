/- G2, G30, G31, G32, G33, G34, G3 -/
import Derived.Conc.MuLone
import Derived.Test.YtpekidjfbinekaaGreatDoorA02
import Derived.Test.YtpekidjfbinekaaGreatDoorA05
set_option maxRecDepth 100000
set_option maxHeartbeats 60000000
set_option linter.all false
namespace Go.Proofs.YtpekidjfbinekaaGreatDoor
open Go.RowKit Uni
structure GEnv where
 n:Nat
 tp:Nat->Addr
 nd:Nat
 nm:Nat->Nat
 ob:Nat->Nat
 D:zE
 pk:Value
 A:Nat->Prop
def xJ (w:World)(E:GEnv)(a:Option Addr)(vs:List Value)(nms:List (List UInt8)):Prop:=
 vs= []\/ ∃b off,a=some ⟨b,off,none⟩/\ ¬E.A b/\(∃cs,w.heap[b]?=some (.cells cs 133 (0,0)))/\ ∀(i:Nat) (v:Value),vs[i]?=some v-> ∃(vb:Nat) (p0 k:Value) (nm:ByteArray),w.cell? ⟨b,off + i,none⟩=some (.pointer (some ⟨vb,0,none⟩))/\ ¬E.A vb/\
  w.heap[vb]?=some (.cells #[p0,E.pk,.string nm,v,k,.bool false] 201 (0,0))/\ ∀n',nms[i]?=some n'->nm.toList=n'/\ ∃c:UInt8,n'= [c]/\65<=c/\c<=90
def yT (w:World)(E:GEnv)(a:Option Addr)(vs:List Value):Prop:=
 vs= []\/ ∃b off,a=some ⟨b,off,none⟩/\ ¬E.A b/\(∃cs,w.heap[b]?=some (.cells cs 103 (0,0)))/\ ∀(i:Nat) (v:Value),vs[i]?=some v->w.cell? ⟨b,off + i,none⟩=some v
def yZ (w:World)(E:GEnv)(pv:Value)(vs:List Value):Prop:=
 (vs= []/\pv= .pointer none)\/ ∃b va vc,vs≠ []/\pv= .pointer (some ⟨b,0,none⟩)/\ ¬E.A b/\w.heap[b]?=some (.cells #[.slice va vs.length vc] 275 (0,0))/\vs.length<=vc/\vc<=maxLen/\xJ w E va vs []
def SmL (f:Lab)(ts:List Tm):Prop:=ts.length<=1954687338211/\(f.kind=0->f.n < 17)/\(f.kind=8->f.n < 3)
structure NormT (f:Lab) (ts:List Tm):Prop where
 norm:Norm f
 sm:SmL f ts
inductive PT (w:World) (E:GEnv):Value->Tm->Prop
 |var (p:Nat):p < E.n->PT w E (.iface 95 (.pointer (some (E.tp p)))) (.var p)
 |basic (f:Lab) (a:Nat) (i:Value) (nm:Value):f.kind=0->NormT f []-> ¬E.A a->w.heap[a]?=some (.cells #[.int .i64 (f.n + 1:Nat),i,nm] 252 (0,0))->PT w E (.iface 179 (.pointer (some ⟨a,0,none⟩))) (.node f [])
 |ptr (f:Lab) (a:Nat) (v:Value) (t:Tm):f.kind=4->NormT f [t]-> ¬E.A a->w.heap[a]?=some (.cells #[v] 207 (0,0))->PT w E v t->PT w E (.iface 142 (.pointer (some ⟨a,0,none⟩))) (.node f [t])
 |slice (f:Lab) (a:Nat) (v:Value) (t:Tm):f.kind=5->NormT f [t]-> ¬E.A a->w.heap[a]?=some (.cells #[v] 209 (0,0))->PT w E v t->PT w E (.iface 144 (.pointer (some ⟨a,0,none⟩))) (.node f [t])
 |array (f:Lab) (a:Nat) (v:Value) (t:Tm):f.kind=6->NormT f [t]-> ¬E.A a->w.heap[a]?=some (.cells #[.int .i64 f.n,v] 211 (0,0))->PT w E v t->PT w E (.iface 146 (.pointer (some ⟨a,0,none⟩))) (.node f [t])
 |map (f:Lab) (a:Nat) (v v':Value) (t t':Tm):f.kind=7->NormT f [t,t']-> ¬E.A a->w.heap[a]?=some (.cells #[v,v'] 213 (0,0))->PT w E v t->PT w E v' t'->PT w E (.iface 148 (.pointer (some ⟨a,0,none⟩))) (.node f [t,t'])
 |chan (f:Lab) (a:Nat) (v:Value) (t:Tm):f.kind=8->NormT f [t]-> ¬E.A a->w.heap[a]?=some (.cells #[.int .i64 f.n,v] 215 (0,0))->PT w E v t->PT w E (.iface 150 (.pointer (some ⟨a,0,none⟩))) (.node f [t])
 |struct (f:Lab) (a:Nat) (fa:Option Addr) (fc:Nat) (vs:List Value) (ts:List Tm):f.kind=9->NormT f ts->f.names.length=ts.length-> ¬E.A a->w.heap[a]?=some (.cells #[.slice fa vs.length fc,.slice none 0 0] 223 (0,0))->
   vs.length=ts.length->vs.length<=fc->fc<=maxLen->xJ w E fa vs f.names->(∀(i:Nat) (v:Value) (t:Tm),vs[i]?=some v->ts[i]?=some t->PT w E v t)->PT w E (.iface 156 (.pointer (some ⟨a,0,none⟩))) (.node f ts)
 |func (f:Lab) (a:Nat) (pp rp:Value) (vs:List Value) (ts:List Tm):f.kind=10->NormT f ts->f.cnt<=ts.length-> ¬E.A a->w.heap[a]?=some (.cells #[.pointer none,.pointer none,pp,rp,.bool f.vari] 136 (0,0))->
   vs.length=ts.length->yZ w E pp (vs.take f.cnt)->yZ w E rp (vs.drop f.cnt)->(∀(i:Nat) (v:Value) (t:Tm),vs[i]?=some v->ts[i]?=some t->PT w E v t)->PT w E (.iface 128 (.pointer (some ⟨a,0,none⟩))) (.node f ts)
 |named0 (f:Lab) (c0 c1 c2 c4 c5 u c9 c10:Value) (st:Int):f.kind=1->NormT f []->f.n < E.nd-> ¬E.A (E.nm f.n)->w.heap[E.nm f.n]?=some (.cells #[c0,c1,c2,.pointer none,c4,c5,.int .u32 st,u,u,c9,c10] 171 (0,0))->
   st=15->PT w E u (und E.D (.node f []))->PT w E (.iface 106 (.pointer (some ⟨E.nm f.n,0,none⟩))) (.node f [])
 |named (f:Lab) (a ib lb:Nat) (ta:Option Addr) (tc:Nat) (c0 c1 c2 c4 c5 u c9 c10:Value) (st:Int) (vs:List Value) (ts:List Tm):f.kind=1->NormT f ts->f.n < E.nd->ts≠ []-> ¬E.A a->
   w.heap[a]?=some (.cells #[c0,c1,c2,.pointer (some ⟨ib,0,none⟩),c4,c5,.int .u32 st,u,u,c9,c10] 171 (0,0))->st=15-> ¬E.A ib->w.heap[ib]?=some (.cells #[.pointer (some ⟨E.nm f.n,0,none⟩),.pointer (some ⟨lb,0,none⟩)] 238 (0,0))->
   ¬E.A lb->w.heap[lb]?=some (.cells #[.slice ta vs.length tc] 282 (0,0))->vs.length=ts.length->vs.length<=tc->tc<=maxLen->yT w E ta vs->(∀(i:Nat) (v:Value) (t:Tm),vs[i]?=some v->ts[i]?=some t->PT w E v t)->
   PT w E u (und E.D (.node f ts))->PT w E (.iface 106 (.pointer (some ⟨a,0,none⟩))) (.node f ts)
structure EnvOk (w:World) (E:GEnv):Prop where
 keys:Keys w E.tp E.n
 off: ∀p,p < E.n->(E.tp p).off=0/\(E.tp p).spot=none/\ ¬E.A (E.tp p).block
 decl: ∀i,i < E.nd-> ¬E.A (E.nm i)/\ ∃c0 c2 c4 c5 c6 c7 u c9 c10,w.heap[E.nm i]?=some (.cells #[c0,.pointer (some ⟨E.ob i,0,none⟩),c2,.pointer none,c4,c5,c6,c7,u,c9,c10] 171 (0,0))/\ ¬E.A (E.ob i)/\ ∃c t,w.heap[E.ob i]?=some (.cells c t (0,0))
 inj: ∀i j,i < E.nd->j < E.nd->E.ob i=E.ob j->i=j
 injn: ∀i j,i < E.nd->j < E.nd->E.nm i=E.nm j->i=j
 below: ∀b,E.A b->b < w.heap.size
 tab0: ¬E.A 0
 tab: ∀c:Nat,65<=c->c<=90-> ∃v,w.cell? ⟨0,c,none⟩=some (.int .u8 v)
 pkg: ∃b c t nm,E.pk= .pointer (some ⟨b,0,none⟩)/\ ¬E.A b/\w.heap[b]?=some (.cells c t (0,0))/\c[0]?=some (.string nm)
theorem xJ.keep {w w':World}{E:GEnv}{a:Option Addr}{vs:List Value}{nms:List (List UInt8)}(h:xJ w E a vs nms)(f:Fr E.A w w'):xJ w' E a vs nms:=by
 rcases h with h | ⟨b,off,ha,hb,⟨cs,hcs⟩,h⟩
 ·exact .inl h
 ·refine .inr ⟨b,off,ha,hb,⟨cs,f.heap hb hcs⟩,fun i v hv=> ?_⟩
  obtain ⟨vb,p0,k,nm,h1,h2,h3,h4⟩:=h i v hv;exact ⟨vb,p0,k,nm,f.cell hb h1,h2,f.heap h2 h3,h4⟩
theorem yT.keep {w w':World}{E:GEnv}{a:Option Addr}{vs:List Value}(h:yT w E a vs)(f:Fr E.A w w'):yT w' E a vs:=by
 rcases h with h | ⟨b,off,ha,hb,⟨cs,hcs⟩,h⟩
 ·exact .inl h
 ·exact .inr ⟨b,off,ha,hb,⟨cs,f.heap hb hcs⟩,fun i v hv=>f.cell hb (h i v hv)⟩
theorem yZ.keep {w w':World}{E:GEnv}{pv:Value}{vs:List Value}(h:yZ w E pv vs)(f:Fr E.A w w'):yZ w' E pv vs:=by
 rcases h with h | ⟨b,va,vc,h0,h1,h2,h3,h4,h5,h6⟩
 ·exact .inl h
 ·exact .inr ⟨b,va,vc,h0,h1,h2,f.heap h2 h3,h4,h5,h6.keep f⟩
theorem PT.keep {w w':World}{E:GEnv}{v:Value}{t:Tm}(h:PT w E v t)(f:Fr E.A w w'):PT w' E v t:=by
 induction h with
 |var p h=>exact .var p h
 |basic l a i nm h1 h2 h3 h4=>exact .basic l a i nm h1 h2 h3 (f.heap h3 h4)
 |ptr l a v t h1 h2 h3 h4 _ ih=>exact .ptr l a v t h1 h2 h3 (f.heap h3 h4) ih
 |slice l a v t h1 h2 h3 h4 _ ih=>exact .slice l a v t h1 h2 h3 (f.heap h3 h4) ih
 |array l a v t h1 h2 h3 h4 _ ih=>exact .array l a v t h1 h2 h3 (f.heap h3 h4) ih
 |map l a v v' t t' h1 h2 h3 h4 _ _ ih ih'=>exact .map l a v v' t t' h1 h2 h3 (f.heap h3 h4) ih ih'
 |chan l a v t h1 h2 h3 h4 _ ih=>exact .chan l a v t h1 h2 h3 (f.heap h3 h4) ih
 |struct l a fa fc vs ts h1 h2 hn h3 h4 h5 h6 h7 h8 _ ih=>exact .struct l a fa fc vs ts h1 h2 hn h3 (f.heap h3 h4) h5 h6 h7 (h8.keep f) ih
 |func l a pp rp vs ts h1 h2 hn h3 h4 h5 h6 h7 _ ih=>exact .func l a pp rp vs ts h1 h2 hn h3 (f.heap h3 h4) h5 (h6.keep f) (h7.keep f) ih
 |named0 l c0 c1 c2 c4 c5 u c9 c10 st h1 h2 h3 h4 h5 h6 _ ih=>exact .named0 l c0 c1 c2 c4 c5 u c9 c10 st h1 h2 h3 h4 (f.heap h4 h5) h6 ih
 |named l a ib lb ta tc c0 c1 c2 c4 c5 u c9 c10 st vs ts h1 h2 h3 hne h4 h5 h6 h7 h8 h9 h10 h11 h12 h13 h14 _ _ ih ih'=>
  exact .named l a ib lb ta tc c0 c1 c2 c4 c5 u c9 c10 st vs ts h1 h2 h3 hne h4 (f.heap h4 h5) h6 h7 (f.heap h7 h8) h9 (f.heap h9 h10) h11 h12 h13 (h14.keep f) ih ih'
theorem EnvOk.keep {w w':World}{E:GEnv}(h:EnvOk w E)(f:Fr E.A w w'):EnvOk w' E:=by
 refine ⟨⟨fun p hp=> ?_,h.keys.inj⟩,h.off,fun i hi=> ?_,h.inj,h.injn,fun b hb=>Nat.lt_of_lt_of_le (h.below b hb) f.size,h.tab0,fun c h1 h2=>(h.tab c h1 h2).imp fun v hv=>f.cell h.tab0 hv,?_⟩
 ·obtain ⟨c,t,h1⟩:=h.keys.cells p hp
  exact ⟨c,t,f.heap (h.off p hp).2.2 h1⟩
 ·obtain ⟨h1,c0,c2,c4,c5,c6,c7,u,c9,c10,h2,h3,c,t,h4⟩:=h.decl i hi
  exact ⟨h1,c0,c2,c4,c5,c6,c7,u,c9,c10,f.heap h1 h2,h3,c,t,f.heap h3 h4⟩
 ·obtain ⟨b,c,t,nm,h1,h2,h3,h4⟩:=h.pkg
  exact ⟨b,c,t,nm,h1,h2,f.heap h2 h3,h4⟩
def tyOf:Tm->Nat
 |.var _=>95
 |.node f _=>match f.kind with | 0=>179 | 1=>106 | 4=>142 | 5=>144 | 6=>146 | 7=>148 | 8=>150 | 9=>156 | _=>128
theorem PT.form {w:World}{E:GEnv}(hE:EnvOk w E){v:Value}{t:Tm}(h:PT w E v t): ∃a c ty,v= .iface (tyOf t) (.pointer (some a))/\a.off=0/\a.spot=none/\ ¬E.A a.block/\w.heap[a.block]?=some (.cells c ty (0,0)):=by
 cases h with
 |var p hp=>
  obtain ⟨c,t,h1⟩:=hE.keys.cells p hp;obtain ⟨h2,h3,h4⟩:=hE.off p hp;exact ⟨_,c,t,rfl,h2,h3,h4,h1⟩
 |basic f a i nm h1 h2 h3 h4=>exact ⟨⟨a,0,none⟩,_,_,by simp [tyOf,h1],rfl,rfl,h3,h4⟩
 |ptr f a v t h1 h2 h3 h4=>exact ⟨⟨a,0,none⟩,_,_,by simp [tyOf,h1],rfl,rfl,h3,h4⟩
 |slice f a v t h1 h2 h3 h4=>exact ⟨⟨a,0,none⟩,_,_,by simp [tyOf,h1],rfl,rfl,h3,h4⟩
 |array f a v t h1 h2 h3 h4=>exact ⟨⟨a,0,none⟩,_,_,by simp [tyOf,h1],rfl,rfl,h3,h4⟩
 |map f a v v' t t' h1 h2 h3 h4=>exact ⟨⟨a,0,none⟩,_,_,by simp [tyOf,h1],rfl,rfl,h3,h4⟩
 |chan f a v t h1 h2 h3 h4=>exact ⟨⟨a,0,none⟩,_,_,by simp [tyOf,h1],rfl,rfl,h3,h4⟩
 |struct f a fa fc vs ts h1 h2 hn h3 h4=>exact ⟨⟨a,0,none⟩,_,_,by simp [tyOf,h1],rfl,rfl,h3,h4⟩
 |func f a pp rp vs ts h1 h2 hn h3 h4=>exact ⟨⟨a,0,none⟩,_,_,by simp [tyOf,h1],rfl,rfl,h3,h4⟩
 |named0 f c0 c1 c2 c4 c5 u c9 c10 st h1 h2 h3 h4 h5 h6=>exact ⟨⟨E.nm f.n,0,none⟩,_,_,by simp [tyOf,h1],rfl,rfl,h4,h5⟩
 |named f a ib lb ta tc c0 c1 c2 c4 c5 u c9 c10 st vs ts h1 h2 h3 hne h4 h5=>exact ⟨⟨a,0,none⟩,_,_,by simp [tyOf,h1],rfl,rfl,h4,h5⟩
noncomputable def isEqTy (T:Nat):Bool:=match Tryz.prog.underlying T,Tryz.prog.info? T with
 |some (.pointer e),some i=>i.comparable && (match Tryz.prog.info? e with | some j=>j.size !=0 | none=>false)
 |_,_=>false
theorem isEqTy_of {T:Nat}(h:isEqTy T=true): ∃e i j,Tryz.prog.underlying T=some (.pointer e)/\Tryz.prog.info? T=some i/\i.comparable=true/\Tryz.prog.info? e=some j/\j.size≠0:=by
 unfold isEqTy at h
 cases hu:Tryz.prog.underlying T with
 |none=>rw [hu] at h;cases h
 |some d=>
  cases hi:Tryz.prog.info? T with
  |none=>rw [hu,hi] at h;cases d <;>cases h
  |some i=>
   rw [hu,hi] at h
   cases d with
   |pointer e=>
    dsimp only at h
    cases hj:Tryz.prog.info? e with
    |none=>rw [hj] at h;simp at h
    |some j=>
     rw [hj] at h;simp at h;exact ⟨e,i,j,rfl,rfl,h.1,hj,h.2⟩
   |_=>cases h
theorem eqTy (t:Tm):isEqTy (tyOf t)=true:=by
 cases t with
 |var p=>show isEqTy 95=true;kernel_rfl
 |node f ts=>
  unfold tyOf;dsimp only
  split <;>kernel_rfl
theorem under103b:(match Tryz.prog.underlying 103 with | some (.interface _)=>true | _=>false)=true:=by kernel_rfl
theorem wU: ∃ms,Tryz.prog.underlying 103=some (.interface ms):=by
 have h:=under103b
 split at h
 ·rename_i ms hu;exact ⟨ms,hu⟩
 ·cases h
theorem wC {w:World}{t1 t2:Nat}{a b:Addr}{ca cb:Array Value}{ta tb:TypeId}(h1:isEqTy t1=true)(ha:w.heap[a.block]?=some (.cells ca ta (0,0)))(hb:w.heap[b.block]?=some (.cells cb tb (0,0))):
 (binOp .eql 103 (.iface t1 (.pointer (some a))) (.iface t2 (.pointer (some b)))).run Tryz.prog w= .ok (.bool (decide (t1=t2/\a=b))) w:=by
 obtain ⟨ms,hi⟩:=wU;obtain ⟨e,i,j,hp,hinfo,hc,hte,hsz⟩:=isEqTy_of h1;by_cases ht:t1=t2
 ·subst ht
  by_cases hab:a=b
  ·subst hab
   rw [run_eql_iface_ptr_same w a hi hp hinfo hc hte];simp
  ·rw [run_eql_iface_ptr_other w hi hp hinfo hc hte hsz hab ha hb];simp [hab]
 ·have h: ∀d:Nat,(Op.equalIn (d + 1) 103 (.iface t1 (.pointer (some a))) (.iface t2 (.pointer (some b)))).run Tryz.prog w= .ok false w:=fun d=>by simp [Op.equalIn,run_underlying hi,ht]
  simp only [binOp];simp [Op.equal,Op.maxDepth,h 9999,ht]
def Laid (w:World)(c:Array Value)(t:TypeId)(e:Ending)(w':World):Prop:=e= .returned (.pointer (some ⟨w.heap.size,0,none⟩))/\w'=w.alloc (.cells c t)
theorem zL {ops:Array Oper}{rest:List Oper}{o:Oper}{a:Act}{w:World}{Q:Exit->Act->World->Prop}(hgd:o.guard=none)(x:Operand)(ho:o.op= .box 252 x)(u0 u1 u2:Value)
 (hx:a.eval x= .agg #[u0,u1,u2])
 (h: ∀W,W.heap[w.heap.size]?=some (.cells #[u0,u1,u2] 252 (0,0))->Fr (fun _=>False) w W->W.heap.size=w.heap.size + 1->wpList Tryz.prog ops Q rest (a.put o.dst (.pointer (some ⟨w.heap.size,0,none⟩))) W):wpList Tryz.prog ops Q (o::rest) a w:=by
 have H:=h _ (heap_alloc_new w (.cells #[u0,u1,u2] 252)) ((Fr.refl _ w).alloc _) (by simp);refine wpList_plain hgd fun K hK=> ?_
 have H':=hK _ _ H;clear H h hK;obtain ⟨dst,op,type,pos,after,guard⟩:=o;dsimp only at ho hgd H';subst ho hgd;unfold Oper.wp execOp;simp only [hx];simp [go_sem];exact H'
section
variable (w:World)
theorem newPackage_any (s t:ByteArray):Calls Tryz.prog 55 #[.string s,.string t] w (Laid w #[.string s,.string t] 117):=by
 go_enter Tryz.func55,Tryz.ntmps55;go_wp2;go_ret;exact ⟨rfl,rfl⟩
theorem newPointer_any (ty:TypeId)(pv:Value):Calls Tryz.prog 78 #[.iface ty pv] w (Laid w #[.iface ty pv] 207):=by
 go_enter Tryz.func78,Tryz.ntmps78;go_wp2;go_ret;exact ⟨rfl,rfl⟩
theorem newSlice_any (ty:TypeId)(pv:Value):Calls Tryz.prog 79 #[.iface ty pv] w (Laid w #[.iface ty pv] 209):=by
 go_enter Tryz.func79,Tryz.ntmps79;go_wp2;go_ret;exact ⟨rfl,rfl⟩
theorem newArray_any (ty:TypeId)(pv:Value)(n:Int):Calls Tryz.prog 80 #[.iface ty pv,.int .i64 n] w (Laid w #[.int .i64 n,.iface ty pv] 211):=by
 go_enter Tryz.func80,Tryz.ntmps80;go_wp2;go_ret;exact ⟨rfl,rfl⟩
theorem newMap_any (ty ty':TypeId)(pv pv':Value):Calls Tryz.prog 81 #[.iface ty pv,.iface ty' pv'] w (Laid w #[.iface ty pv,.iface ty' pv'] 213):=by
 go_enter Tryz.func81,Tryz.ntmps81;go_wp2;go_ret;exact ⟨rfl,rfl⟩
theorem newChan_any (ty:TypeId)(pv:Value)(n:Int):Calls Tryz.prog 82 #[.int .i64 n,.iface ty pv] w (Laid w #[.int .i64 n,.iface ty pv] 215):=by
 go_enter Tryz.func82,Tryz.ntmps82;go_wp2;go_ret;exact ⟨rfl,rfl⟩
theorem newVar_any (k pos:Int)(pk:Value)(nm:ByteArray)(ty:TypeId)(pv:Value)(hpk: ∃a,pk= .pointer (some a)):Calls Tryz.prog 73 #[.int .u8 k,.int .i64 pos,pk,.string nm,.iface ty pv] w (Laid w #[.int .i64 pos,pk,.string nm,.iface ty pv,.int .u8 k,.bool false] 201):=by
 obtain ⟨a,rfl⟩:=hpk;go_enter Tryz.func73,Tryz.ntmps73;go_wp2;go_ret;exact ⟨rfl,rfl⟩
theorem newParam_any (pos:Int)(pk:Value)(nm:ByteArray)(ty:TypeId)(pv:Value)(hpk: ∃a,pk= .pointer (some a)):Calls Tryz.prog 124 #[.int .i64 pos,pk,.string nm,.iface ty pv] w (Laid w #[.int .i64 pos,pk,.string nm,.iface ty pv,.int .u8 4,.bool false] 201):=by
 go_enter Tryz.func124,Tryz.ntmps124;go_wp2_with fail
 refine (newVar_any _ _ _ _ _ _ _ hpk).mono ?_;rintro e w' ⟨rfl,rfl⟩;go_wp2;go_ret;exact ⟨rfl,rfl⟩
theorem direction_any (n:Nat)(h:n < 3):Calls Tryz.prog 83 #[.int .i64 n] w fun e w'=>e= .returned (.int .i64 n)/\w'=w:=by
 have h3:n=0\/n=1\/n=2:=by omega
 rcases h3 with rfl | rfl | rfl
 all_goals
  go_enter Tryz.func83,Tryz.ntmps83;go_wp2;go_ret;exact ⟨rfl,rfl⟩
theorem newTypeName_any (pos:Int)(a:Addr)(nm:ByteArray):Calls Tryz.prog 70 #[.int .i64 pos,.pointer (some a),.string nm,.nilIface] w (Laid w #[.int .i64 pos,.pointer (some a),.string nm,.nilIface] 194):=by
 go_enter Tryz.func70,Tryz.ntmps70;go_wp2;go_ret;exact ⟨rfl,rfl⟩
theorem newField_any (pos:Int)(pk:Value)(nm:ByteArray)(ty:TypeId)(pv:Value)(hpk: ∃a,pk= .pointer (some a)):Calls Tryz.prog 84 #[.int .i64 pos,pk,.string nm,.iface ty pv,.bool false] w (Laid w #[.int .i64 pos,pk,.string nm,.iface ty pv,.int .u8 6,.bool false] 201):=by
 go_enter Tryz.func84,Tryz.ntmps84;go_wp2_with fail
 refine (newVar_any _ _ _ _ _ _ _ hpk).mono ?_;rintro e w' ⟨rfl,rfl⟩;have qb:=zA (heap_alloc_new w (.cells #[.int .i64 pos,pk,.string nm,.iface ty pv,.int .u8 6,.bool false] 201));have fb:=zC (heap_alloc_new w (.cells #[.int .i64 pos,pk,.string nm,.iface ty pv,.int .u8 6,.bool false] 201));go_wp2;go_ret;exact ⟨rfl,rfl⟩
theorem newTuple_some (la:Option Addr)(n c:Nat)(h:0 < n):Calls Tryz.prog 125 #[.slice la n c] w (Laid w #[.slice la n c] 275):=by
 have hn:(0:Int) < n:=by omega
 go_enter Tryz.func125,Tryz.ntmps125;go_wp2;go_ret;exact ⟨rfl,rfl⟩
theorem newTuple_none (la:Option Addr)(c:Nat):Calls Tryz.prog 125 #[.slice la 0 c] w fun e w'=>e= .returned (.pointer none)/\w'=w:=by
 go_enter Tryz.func125,Tryz.ntmps125;go_wp2;go_ret;exact ⟨rfl,rfl⟩
end
theorem eq_nil (ty:TypeId)(v:Value)(w:World):(binOp .eql 103 (.iface ty v) .nilIface).run Tryz.prog w= .ok (.bool false) w:=by
 obtain ⟨ms,hi⟩:=wU;have h: ∀d:Nat,(Op.equalIn (d + 1) 103 (.iface ty v) .nilIface).run Tryz.prog w= .ok false w:=fun d=>by simp [Op.equalIn,run_underlying hi]
 simp only [binOp];simp [Op.equal,Op.maxDepth,h 9999]
theorem nil_nil (w:World):(binOp .eql 103 .nilIface .nilIface).run Tryz.prog w= .ok (.bool true) w:=by
 obtain ⟨ms,hi⟩:=wU;have h: ∀d:Nat,(Op.equalIn (d + 1) 103 .nilIface .nilIface).run Tryz.prog w= .ok true w:=fun d=>by simp [Op.equalIn,run_underlying hi]
 simp only [binOp];simp [Op.equal,Op.maxDepth,h 9999]
def xV (o:Nat)(u:Value):Array Value:= #[.pointer none,.pointer (some ⟨o,0,none⟩),.bool false,.pointer none,.int .i32 0,.int .u32 0,.int .u32 0,u,.nilIface,.bool false,.slice none 0 0]
theorem newNamed_any (w:World)(o:Nat)(p pk nm:Value)(u:Value)(hu:u= .nilIface\/ ∃ty pv,u= .iface ty pv)(ho:w.heap[o]?=some (.cells #[p,pk,nm,.nilIface] 194 (0,0))):
 Calls Tryz.prog 90 #[.pointer none,.pointer (some ⟨o,0,none⟩),u,.slice none 0 0] w fun e w'=>e= .returned (.pointer (some ⟨w.heap.size,0,none⟩))/\w'.heap[w.heap.size]?=some (.cells (xV o u) 171 (0,0))/\
  w'.heap[o]?=some (.cells #[p,pk,nm,.iface 106 (.pointer (some ⟨w.heap.size,0,none⟩))] 194 (0,0))/\Fr (fun b=>b=o) w w'/\w'.heap.size=w.heap.size + 1:=by
 have hE:=nil_nil;have ho1:=((Fr.refl (fun _=>False) w).alloc (.cells (xV o u) 171)).heap id ho;have qo:=zA ho1;have fo:=zC ho1;have lo:=bl (zA ho 0);dsimp only at lo;have hne:w.heap.size≠o:=by omega
 have SC: ∀v,(w.setCell ⟨o,3,none⟩ v).heap.size=w.heap.size:=fun v=>by simp [World.setCell]
 have HB:=hid (fun v=>(by have h:=heap_alloc_new (w.setCell ⟨o,3,none⟩ v) (.cells (xV o u) 171);rw [SC v] at h;exact h:((w.setCell ⟨o,3,none⟩ v).alloc (.cells (xV o u) 171)).heap[w.heap.size]?=some (.cells (xV o u) 171 (0,0))));have HO:=hid (fun v=>((Fr.refl (fun _=>False) (w.setCell ⟨o,3,none⟩ v)).alloc (.cells (xV o u) 171)).heap id (heap_setCell (a:=⟨o,3,none⟩) ho rfl));have FA:=hid (fun v=>((Fr.refl (fun b=>b=o) w).setCell (p:=⟨o,3,none⟩) (.inl rfl) v).alloc (.cells (xV o u) 171))
 have SC2:=hid SC;clear ho ho1 SC;unfold xV at qo fo;rcases hu with rfl | ⟨ty,pv,rfl⟩
 all_goals
  go_enter Tryz.func90,Tryz.ntmps90;go_wp2;go_ret;exact ⟨rfl,HB.out _,HO.out _,FA.out _,by have:=SC2.out;simp [World.setCell]⟩
abbrev muLink:Go.Conc.Locks.MuLink:= {lock:=128,unlock:=129,ilock:=158,iunlock:=159,lockSlow:=200,unlockSlow:=203,disable:=196,enable:=198,acquire:=199,relMerge:=201,cas32:=197,add32:=202,tMutex:=169,tIMutex:=167,tPMutex:=286,tPIMutex:=343,tPI32:=345,tUP:=347,tNoCopy:=164,tU32:=165}
theorem muLib:Go.Conc.Locks.MuLib Tryz.prog muLink:=
 ⟨Tryz.func128,Tryz.func129,Tryz.func158,Tryz.func159,Tryz.func196,Tryz.func198,Tryz.func199,Tryz.func201,Tryz.func197,Tryz.func202,Tryz.underlying167,Tryz.runUnderlying167,Tryz.sizeOf167,Tryz.isAgg167,Tryz.zeroValue167,Tryz.underlying169,Tryz.runUnderlying169,Tryz.sizeOf169,Tryz.isAgg169,Tryz.zeroValue169,Tryz.underlying286,Tryz.runUnderlying286,Tryz.sizeOf286,Tryz.isAgg286,Tryz.zeroValue286,Tryz.underlying343,Tryz.runUnderlying343,Tryz.sizeOf343,Tryz.isAgg343,Tryz.zeroValue343,Tryz.underlying345,Tryz.runUnderlying345,Tryz.sizeOf345,Tryz.isAgg345,Tryz.zeroValue345,Tryz.underlying347,Tryz.runUnderlying347,Tryz.sizeOf347,Tryz.isAgg347,Tryz.zeroValue347,Tryz.underlying164,Tryz.runUnderlying164,Tryz.sizeOf164,Tryz.isAgg164,Tryz.zeroValue164,Tryz.underlying21,Tryz.runUnderlying21,Tryz.sizeOf21,Tryz.isAgg21,Tryz.zeroValue21,(by kernel_rfl)⟩
theorem or_u32 {a:Addr}{x y:Int}{w:World}(hc:w.cell? a=some (.int .u32 x))(hz:w.frozen? a=false):
 (callFunc 160 #[.pointer (some a),.int .u32 y]).run Tryz.prog w= .ok (.value (.int .u32 x)) (w.setCell a (.int .u32 (bits .or .u32 x y))):=by
 have hb:(Op.intBits .or .u32 x y).run Tryz.prog w= .ok (.int .u32 (bits .or .u32 x y)) w:=rfl;rw [run_callFunc_extern Tryz.func160 (by kernel_rfl) (by kernel_rfl) (by kernel_rfl) (show Extern.find Tryz.f160=some (Extern.Atomic.update (Op.intBits .or) .u32 false) by kernel_rfl)];change (Sem.run Tryz.prog (do
  let a' <-asAddr (.pointer (some a))
  let old <-Extern.Atomic.read (.int .u32) a'
  let new <-Op.intBits .or .u32 (<-asInt old) (<-asInt (.int .u32 y))
  store a' new .atomic
  pure (if false=true then new else old)) w).andThen _=_
 generalize bits .or .u32 x y=s at hb ⊢;have hst:=run_store Tryz.prog w a (.int .u32 s) .atomic rfl;simp [Extern.Atomic.read,asAddr,asInt,asIntOf,hc,hz,hb,hst,Result.andThen]
theorem setState_any (w:World)(a:Nat)(c0 c1 c2 c3 c4 c5 c7 c8 c9 c10:Value)(st k:Int)(h:w.heap[a]?=some (.cells #[c0,c1,c2,c3,c4,c5,.int .u32 st,c7,c8,c9,c10] 171 (0,0))):
 Calls Tryz.prog 130 #[.pointer (some ⟨a,0,none⟩),.int .u32 k] w fun e w'=>e= .returned (.tuple #[])/\w'=w.setCell ⟨a,6,none⟩ (.int .u32 (bits .or .u32 st k)):=by
 have q:=zA h;have f:=zC h;have sz:=bl (q 0);dsimp only at sz;have ho:=or_u32 (y:=k) ((q 6).trans rfl) (f 6);clear h;go_enter Tryz.func130,Tryz.ntmps130;go_wp2;go_end0;exact ⟨rfl,rfl⟩
theorem setUnderlying_any (w:World)(a:Nat)(c0 c1 c2 c3 c5 c7 c8 c9 c10:Value)(ty:TypeId)(pv:Value)(h283: ¬ty=283)(h106: ¬ty=106)(h:w.heap[a]?=some (.cells #[c0,c1,c2,c3,.int .i32 0,c5,.int .u32 0,c7,c8,c9,c10] 171 (0,0))):
 Calls Tryz.prog 91 #[.pointer (some ⟨a,0,none⟩),.iface ty pv] w fun e w'=>e= .returned (.tuple #[])/\w'.heap[a]?=some (.cells #[c0,c1,.bool false,c3,.int .i32 0,c5,.int .u32 15,.iface ty pv,.iface ty pv,c9,c10] 171 (0,0))/\Fr (fun b=>b=a) w w'/\w'.heap.size=w.heap.size:=by
 have hE:=eq_nil;have hnn: ∀(w:World),(binOp .neq 106 (.pointer none) (.pointer none)).run Tryz.prog w= .ok (.bool false) w:=fun w=>rfl
 have q:=zA h;have f:=zC h;have sz:=bl (q 0);dsimp only at sz;have H:=hid h;clear h;go_enter_defers Tryz.func91,Tryz.ntmps91;go_wp2_with fail
 refine (yI ty pv w h283).mono ?_;rintro e ww ⟨rfl,rfl⟩;rw [if_neg h106];go_wp2_with fail
 refine (Go.MuLone.lock_free muLib ⟨a,4,none⟩ _ ((q 4).trans rfl) (f 4)).mono ?_;rintro e w1 ⟨rfl,rfl⟩;have H1:(ww.setCell ⟨a,4,none⟩ (.int .i32 1)).heap[a]?=some (.cells #[c0,c1,c2,c3,.int .i32 1,c5,.int .u32 0,c7,c8,c9,c10] 171 (0,0)):=heap_setCell (a:=⟨a,4,none⟩) H.out rfl;have F1:Fr (fun b=>b=a) ww (ww.setCell ⟨a,4,none⟩ (.int .i32 1)):=(Fr.refl (fun b=>b=a) ww).setCell (p:=⟨a,4,none⟩) (.inl rfl) _
 have S1:(ww.setCell ⟨a,4,none⟩ (.int .i32 1)).heap.size=ww.heap.size:=by simp [World.setCell]
 have HH1:=hid H1;have FF1:=hid F1;have SS1:=hid S1;clear H1 F1 S1 q f sz;generalize ww.setCell ⟨a,4,none⟩ (.int .i32 1)=w1 at HH1 FF1 SS1 ⊢;have q:=zA HH1.out;have f:=zC HH1.out;have sz:=bl (q 0);dsimp only at sz;go_wp2_with fail
 have H2:((w1.setCell ⟨a,7,none⟩ (.iface ty pv)).setCell ⟨a,2,none⟩ (.bool false)).heap[a]?=some (.cells #[c0,c1,.bool false,c3,.int .i32 1,c5,.int .u32 0,.iface ty pv,c8,c9,c10] 171 (0,0)):=heap_setCell (a:=⟨a,2,none⟩) (heap_setCell (a:=⟨a,7,none⟩) HH1.out rfl) rfl;have F2:Fr (fun b=>b=a) ww ((w1.setCell ⟨a,7,none⟩ (.iface ty pv)).setCell ⟨a,2,none⟩ (.bool false)):=(FF1.out.setCell (p:=⟨a,7,none⟩) (.inl rfl) _).setCell (p:=⟨a,2,none⟩) (.inl rfl) _
 have S2:((w1.setCell ⟨a,7,none⟩ (.iface ty pv)).setCell ⟨a,2,none⟩ (.bool false)).heap.size=ww.heap.size:=by simpa [World.setCell] using SS1.out
 have HH2:=hid H2;have FF2:=hid F2;have SS2:=hid S2;clear H2 F2 S2 q f sz;generalize (w1.setCell ⟨a,7,none⟩ (.iface ty pv)).setCell ⟨a,2,none⟩ (.bool false)=w2 at HH2 FF2 SS2 ⊢;refine (setState_any w2 a _ _ _ _ _ _ _ _ _ _ 0 7 HH2.out).mono ?_;rintro e w3 ⟨rfl,rfl⟩;have H3:(w2.setCell ⟨a,6,none⟩ (.int .u32 (bits .or .u32 0 7))).heap[a]?=some (.cells #[c0,c1,.bool false,c3,.int .i32 1,c5,.int .u32 7,.iface ty pv,c8,c9,c10] 171 (0,0)):=heap_setCell (a:=⟨a,6,none⟩) HH2.out rfl
 have F3:Fr (fun b=>b=a) ww (w2.setCell ⟨a,6,none⟩ (.int .u32 (bits .or .u32 0 7))):=FF2.out.setCell (p:=⟨a,6,none⟩) (.inl rfl) _;have S3:(w2.setCell ⟨a,6,none⟩ (.int .u32 (bits .or .u32 0 7))).heap.size=ww.heap.size:=by simpa [World.setCell] using SS2.out
 have HH3:=hid H3;have FF3:=hid F3;have SS3:=hid S3;clear H3 F3 S3;generalize w2.setCell ⟨a,6,none⟩ (.int .u32 (bits .or .u32 0 7))=w3 at HH3 FF3 SS3 ⊢;have q:=zA HH3.out;have f:=zC HH3.out;have sz:=bl (q 0);dsimp only at sz;go_wp2_with fail
 have H4:(w3.setCell ⟨a,8,none⟩ (.iface ty pv)).heap[a]?=some (.cells #[c0,c1,.bool false,c3,.int .i32 1,c5,.int .u32 7,.iface ty pv,.iface ty pv,c9,c10] 171 (0,0)):=heap_setCell (a:=⟨a,8,none⟩) HH3.out rfl;have F4:Fr (fun b=>b=a) ww (w3.setCell ⟨a,8,none⟩ (.iface ty pv)):=FF3.out.setCell (p:=⟨a,8,none⟩) (.inl rfl) _;have S4:(w3.setCell ⟨a,8,none⟩ (.iface ty pv)).heap.size=ww.heap.size:=by simpa [World.setCell] using SS3.out
 have HH4:=hid H4;have FF4:=hid F4;have SS4:=hid S4;clear H4 F4 S4 q f sz;generalize w3.setCell ⟨a,8,none⟩ (.iface ty pv)=w4 at HH4 FF4 SS4 ⊢;refine (setState_any w4 a _ _ _ _ _ _ _ _ _ _ 7 8 HH4.out).mono ?_;rintro e w5 ⟨rfl,rfl⟩;have H5:(w4.setCell ⟨a,6,none⟩ (.int .u32 (bits .or .u32 7 8))).heap[a]?=some (.cells #[c0,c1,.bool false,c3,.int .i32 1,c5,.int .u32 15,.iface ty pv,.iface ty pv,c9,c10] 171 (0,0)):=heap_setCell (a:=⟨a,6,none⟩) HH4.out rfl
 have F5:Fr (fun b=>b=a) ww (w4.setCell ⟨a,6,none⟩ (.int .u32 (bits .or .u32 7 8))):=FF4.out.setCell (p:=⟨a,6,none⟩) (.inl rfl) _;have S5:(w4.setCell ⟨a,6,none⟩ (.int .u32 (bits .or .u32 7 8))).heap.size=ww.heap.size:=by simpa [World.setCell] using SS4.out
 have HH5:=hid H5;have FF5:=hid F5;have SS5:=hid S5;clear H5 F5 S5;generalize w4.setCell ⟨a,6,none⟩ (.int .u32 (bits .or .u32 7 8))=w5 at HH5 FF5 SS5 ⊢;go_wp2;refine leaves_cons (f:=129) (args:= #[.pointer (some ⟨a,4,none⟩)]) (by simp) (by simp [go_sem]) ?_;refine (Go.MuLone.unlock_deferred muLib ⟨a,4,none⟩ .returning w5 ((zA HH5.out 4).trans rfl) (zC HH5.out 4)).mono ?_;rintro e u' w6 ⟨rfl,rfl,rfl⟩
 exact ⟨_,results_none rfl _ _ _,rfl,heap_setCell (a:=⟨a,4,none⟩) HH5.out rfl,FF5.out.setCell (p:=⟨a,4,none⟩) (.inl rfl) _,by simpa [World.setCell] using SS5.out⟩
theorem asNamed_nil (w:World):Calls Tryz.prog 89 #[.nilIface] w fun e w'=>e= .returned (.pointer none)/\w'=w:=by
 have A:=fun x w=>run_assert_nil p106 x w
 go_enter Tryz.func89,Tryz.ntmps89;go_wp2_with fail
 refine (unalias_nil _).mono ?_;rintro e ww ⟨rfl,rfl⟩;go_wp2;go_ret;exact ⟨rfl,rfl⟩
def NamedPost (w:World)(o:Nat)(p pk nm:Value)(c:Array Value)(e:Ending)(w':World):Prop:=
 e= .returned (.pointer (some ⟨w.heap.size,0,none⟩))/\w'.heap[w.heap.size]?=some (.cells c 171 (0,0))/\w'.heap[o]?=some (.cells #[p,pk,nm,.iface 106 (.pointer (some ⟨w.heap.size,0,none⟩))] 194 (0,0))/\Fr (fun b=>b=o) w w'/\w'.heap.size=w.heap.size + 1
theorem newNamed61_nil (w:World)(o:Nat)(p pk nm:Value)(ho:w.heap[o]?=some (.cells #[p,pk,nm,.nilIface] 194 (0,0))):
 Calls Tryz.prog 61 #[.pointer (some ⟨o,0,none⟩),.nilIface,.slice none 0 0] w (NamedPost w o p pk nm #[.pointer none,.pointer (some ⟨o,0,none⟩),.bool true,.pointer none,.int .i32 0,.int .u32 0,.int .u32 0,.nilIface,.nilIface,.bool false,.slice none 0 0]):=by
 have hE:=nil_nil;have hnn: ∀(w:World),(binOp .neq 106 (.pointer none) (.pointer none)).run Tryz.prog w= .ok (.bool false) w:=fun w=>rfl
 have lo:o < w.heap.size:=by
  rcases Nat.lt_or_ge o w.heap.size with h' | h'
  ·exact h'
  ·rw [Array.getElem?_eq_none h'] at ho;cases ho
 have NN:=hid (newNamed_any w o p pk nm .nilIface (.inl rfl) ho);clear ho;go_enter Tryz.func61,Tryz.ntmps61;go_wp2_with fail
 refine (asNamed_nil _).mono ?_;rintro e ww ⟨rfl,rfl⟩;go_wp2_with fail
 refine NN.out.mono ?_;rintro e w1 ⟨rfl,hb,hob,hf,hs⟩;have q:=zA hb;have f:=zC hb;unfold xV at q f;have HB:=hid hb;have HO:=hid hob;have HF:=hid hf;have HS:=hid hs;have hne:o≠ww.heap.size:=by omega
 have sz:ww.heap.size < w1.heap.size:=by omega
 clear hb hob hf hs;go_wp2;go_ret;exact ⟨rfl,heap_setCell (a:=⟨ww.heap.size,2,none⟩) HB.out rfl,(Below.heap_setCell _ _ _ _ hne).trans HO.out,HF.out.setCell (.inr (Nat.le_refl _)) _,by simpa [World.setCell] using HS.out⟩
theorem newNamed61_any (w:World)(o:Nat)(p pk nm:Value)(ty:TypeId)(pv:Value)(h283: ¬ty=283)(h106: ¬ty=106)(ho:w.heap[o]?=some (.cells #[p,pk,nm,.nilIface] 194 (0,0))):
 Calls Tryz.prog 61 #[.pointer (some ⟨o,0,none⟩),.iface ty pv,.slice none 0 0] w (NamedPost w o p pk nm #[.pointer none,.pointer (some ⟨o,0,none⟩),.bool false,.pointer none,.int .i32 0,.int .u32 0,.int .u32 15,.iface ty pv,.iface ty pv,.bool false,.slice none 0 0]):=by
 have hE:=eq_nil;have hnn: ∀(w:World),(binOp .neq 106 (.pointer none) (.pointer none)).run Tryz.prog w= .ok (.bool false) w:=fun w=>rfl
 have lo:o < w.heap.size:=by
  rcases Nat.lt_or_ge o w.heap.size with h' | h'
  ·exact h'
  ·rw [Array.getElem?_eq_none h'] at ho;cases ho
 have NN:=hid (newNamed_any w o p pk nm (.iface ty pv) (.inr ⟨_,_,rfl⟩) ho);clear ho;go_enter Tryz.func61,Tryz.ntmps61;go_wp2_with fail
 refine (yI ty pv _ h283).mono ?_;rintro e ww ⟨rfl,rfl⟩;rw [if_neg h106];go_wp2_with fail
 refine NN.out.mono ?_;rintro e w1 ⟨rfl,hb,hob,hf,hs⟩;have HB:=hid hb;have HO:=hid hob;have HF:=hid hf;have HS:=hid hs;have hne: ¬o=ww.heap.size:=by omega
 clear hb hob hf hs;go_wp2_with fail
 refine (setUnderlying_any w1 ww.heap.size _ _ _ _ _ _ _ _ _ ty pv h283 h106 HB.out).mono ?_;rintro e w2 ⟨rfl,h2,f2,s2⟩;have H2:=hid h2;have F2:=hid f2;have S2:=hid s2;clear h2 f2 s2;go_wp2;go_ret;exact ⟨rfl,H2.out,F2.out.heap hne HO.out,HF.out.transNew F2.out (fun x hx=> .inr (by omega)),S2.out.trans HS.out⟩
theorem newTypeList_some (w:World)(la:Option Addr)(n c:Nat)(h:0 < n):Calls Tryz.prog 126 #[.slice la n c] w (Laid w #[.slice la n c] 282):=by
 have hn:((n:Int)==0)=false:=by simp;omega
 go_enter Tryz.func126,Tryz.ntmps126;go_wp2;go_ret;exact ⟨rfl,rfl⟩
theorem eq_nil_slice (a:Addr)(n c:Nat)(w:World):(binOp .eql 154 (.slice (some a) n c) (.slice none 0 0)).run Tryz.prog w= .ok (.bool false) w:=by
 have h: ∀d:Nat,(Op.equalIn (d + 1) 154 (.slice (some a) n c) (.slice none 0 0)).run Tryz.prog w= .ok false w:=fun d=>by simp [Op.equalIn,Tryz.runUnderlying154]
 simp only [binOp];simp [Op.equal,Op.maxDepth,h 9999]
theorem markComplete_some (w:World)(a b off:Nat)(n c:Nat)(t:Value)(h:w.heap[a]?=some (.cells #[.slice (some ⟨b,off,none⟩) n c,t] 223 (0,0))):Calls Tryz.prog 117 #[.pointer (some ⟨a,0,none⟩)] w fun e w'=>e= .returned (.tuple #[])/\w'=w:=by
 have q:=zA h;have sz:=bl (q 0);dsimp only at sz;have hE:=eq_nil_slice;clear h;go_enter Tryz.func117,Tryz.ntmps117;go_wp2;go_end0;exact ⟨rfl,rfl⟩
theorem xJ.det {w:World}{E:GEnv}{a:Option Addr}{vs vs':List Value}{nms nms':List (List UInt8)}(h:xJ w E a vs nms)(h':xJ w E a vs' nms')(hl:vs.length=vs'.length):
 vs=vs'/\(nms.length=vs.length->nms'.length=vs'.length->nms=nms'):=by
 rcases h with h | ⟨b,off,ha,hb,_,h⟩
 ·subst h
  have:vs'= []:=List.eq_nil_of_length_eq_zero (by simpa using hl.symm);subst this;exact ⟨rfl,fun h1 h2=>(List.eq_nil_of_length_eq_zero h1).trans (List.eq_nil_of_length_eq_zero h2).symm⟩
 ·rcases h' with h' | ⟨b',off',ha',hb',_,h'⟩
  ·subst h'
   have:vs= []:=List.eq_nil_of_length_eq_zero hl;subst this;exact ⟨rfl,fun h1 h2=>(List.eq_nil_of_length_eq_zero h1).trans (List.eq_nil_of_length_eq_zero h2).symm⟩
  ·rw [ha] at ha'
   cases ha'
   have key: ∀(i:Nat) (v v':Value),vs[i]?=some v->vs'[i]?=some v'->v=v'/\ ∀(n n':List UInt8),nms[i]?=some n->nms'[i]?=some n'->n=n':=by
    intro i v v' hv hv';obtain ⟨vb,p0,k,nm,h1,h2,h3,h4⟩:=h i v hv;obtain ⟨vb',p0',k',nm',h1',h2',h3',h4'⟩:=h' i v' hv';rw [h1] at h1'
    cases h1'
    rw [h3] at h3';simp at h3';obtain ⟨_,e1,e2,_⟩:=h3';exact ⟨e2,fun n n' hn hn'=>by rw [<-(h4 n hn).1,<-(h4' n' hn').1,e1]⟩
   refine ⟨List.ext_getElem hl fun i h1 h2=>(key i _ _ (by simp [h1]) (by simp [h2])).1,fun l1 l2=>List.ext_getElem (by omega) fun i h1 h2=> ?_⟩;have g1:i < vs.length:=by omega
   have g2:i < vs'.length:=by omega
   exact (key i vs[i] vs'[i] (by simp [g1]) (by simp [g2])).2 _ _ (by simp [h1]) (by simp [h2])
theorem yT.det {w:World}{E:GEnv}{a:Option Addr}{vs vs':List Value}(h:yT w E a vs)(h':yT w E a vs')(hl:vs.length=vs'.length):vs=vs':=by
 rcases h with h | ⟨b,off,ha,hb,_,h⟩
 ·subst h
  exact (List.eq_nil_of_length_eq_zero (by simpa using hl.symm)).symm
 ·rcases h' with h' | ⟨b',off',ha',hb',_,h'⟩
  ·subst h'
   exact List.eq_nil_of_length_eq_zero hl
  ·rw [ha] at ha'
   cases ha'
   refine List.ext_getElem hl fun i h1 h2=> ?_
   have e1:=h i vs[i] (by simp [h1]);have e2:=h' i vs'[i] (by simp [h2]);rw [e1] at e2;exact Option.some.inj e2
theorem yZ.det {w:World}{E:GEnv}{pv:Value}{vs vs':List Value}(h:yZ w E pv vs)(h':yZ w E pv vs'):vs=vs':=by
 rcases h with ⟨h1,h2⟩ | ⟨b,va,vc,h0,h1,h2,h3,h4,h5,h6⟩
 ·rcases h' with ⟨h1',h2'⟩ | ⟨b',va',vc',h0',h1',_⟩
  ·rw [h1,h1']
  ·rw [h2] at h1';cases h1'
 ·rcases h' with ⟨h1',h2'⟩ | ⟨b',va',vc',h0',h1',h2',h3',h4',h5',h6'⟩
  ·rw [h1] at h2';cases h2'
  ·rw [h1] at h1'
   cases h1'
   rw [h3] at h3';simp at h3';obtain ⟨e1,e2,e3⟩:=h3';subst e1;exact (h6.det h6' e2).1
theorem lists_eq {w:World}{E:GEnv}{vs:List Value}{ts ts':List Tm}(h1:vs.length=ts.length)(h2:vs.length=ts'.length)(ih: ∀(i:Nat)(v:Value)(t:Tm),vs[i]?=some v->ts[i]?=some t-> ∀t',PT w E v t'->t=t')
 (h: ∀(i:Nat) (v:Value) (t:Tm),vs[i]?=some v->ts'[i]?=some t->PT w E v t):ts=ts':=by
 refine List.ext_getElem (by omega) fun i a b=> ?_
 have hv:i < vs.length:=by omega
 exact ih i vs[i] ts[i] (by simp [hv]) (by simp [a]) _ (h i vs[i] ts'[i] (by simp [hv]) (by simp [b]))
theorem norm_eq {f g:Lab}{ts us:List Tm}(hf':NormT f ts)(hg':NormT g us)(hk:f.kind=g.kind)(hn:f.kind=0\/f.kind=1\/f.kind=3\/f.kind=6\/f.kind=8->f.n=g.n)(hc:f.kind=10->f.cnt=g.cnt/\f.vari=g.vari)(hm:f.kind=9->f.names=g.names):f=g:=by
 have hf:=hf'.norm;have hg:=hg'.norm;refine lab_eq hk ?_ ?_ ?_ ?_
 ·by_cases h:f.kind=0\/f.kind=1\/f.kind=3\/f.kind=6\/f.kind=8
  ·exact hn h
  ·rw [hf.n (by omega) (by omega) (by omega) (by omega) (by omega),hg.n (by omega) (by omega) (by omega) (by omega) (by omega)]
 ·by_cases h:f.kind=10
  ·exact (hc h).1
  ·rw [(hf.c h).1,(hg.c (by omega)).1]
 ·by_cases h:f.kind=10
  ·exact (hc h).2
  ·rw [(hf.c h).2,(hg.c (by omega)).2]
 ·by_cases h:f.kind=9
  ·exact hm h
  ·rw [hf.names h,hg.names (by omega)]
theorem PT.det {w:World}{E:GEnv}(hE:EnvOk w E){v:Value}{t:Tm}(h:PT w E v t): ∀t',PT w E v t'->t=t':=by
 induction h with
 |var p hp=>
  intro t' h';generalize hv:Value.iface 95 (.pointer (some (E.tp p)))=v at h';cases h' <;>simp at hv
  rename_i q hq;rw [hE.keys.inj p q hp hq hv]
 |basic f a i nm h1 h2 h3 h4=>
  intro t' h';generalize hv:Value.iface 179 (.pointer (some ⟨a,0,none⟩))=v at h';cases h' <;>simp at hv
  rename_i f' a' i' nm' h1' h2' h3' h4';subst hv;rw [h4] at h4';simp at h4';have hn:f.n=f'.n:=by omega
  rw [norm_eq h2 h2' (by omega) (fun _=>hn) (fun h=>by omega) (fun h=>by omega)]
 |ptr f a v t h1 h2 h3 h4 _ ih=>
  intro t' h';generalize hv:Value.iface 142 (.pointer (some ⟨a,0,none⟩))=v at h';cases h' <;>simp at hv
  rename_i f' v' t' h1' h2' h3' h4' h5';subst hv;rw [h4] at h4';simp at h4';subst h4';rw [norm_eq h2 h2' (by omega) (fun h=>by omega) (fun h=>by omega) (fun h=>by omega),ih _ h5']
 |slice f a v t h1 h2 h3 h4 _ ih=>
  intro t' h';generalize hv:Value.iface 144 (.pointer (some ⟨a,0,none⟩))=v at h';cases h' <;>simp at hv
  rename_i f' v' t' h1' h2' h3' h4' h5';subst hv;rw [h4] at h4';simp at h4';subst h4';rw [norm_eq h2 h2' (by omega) (fun h=>by omega) (fun h=>by omega) (fun h=>by omega),ih _ h5']
 |array f a v t h1 h2 h3 h4 _ ih=>
  intro t' h';generalize hv:Value.iface 146 (.pointer (some ⟨a,0,none⟩))=v at h';cases h' <;>simp at hv
  rename_i f' v' t' h1' h2' h3' h4' h5';subst hv;rw [h4] at h4';simp at h4';obtain ⟨e1,e2⟩:=h4';subst e2;rw [norm_eq h2 h2' (by omega) (fun _=>by omega) (fun h=>by omega) (fun h=>by omega),ih _ h5']
 |map f a v v1 t t1 h1 h2 h3 h4 _ _ ih ih1=>
  intro t' h';generalize hv:Value.iface 148 (.pointer (some ⟨a,0,none⟩))=v at h';cases h' <;>simp at hv
  rename_i f' v' v1' t' t1' h1' h2' h3' h4' h5' h6';subst hv;rw [h4] at h4';simp at h4';obtain ⟨e1,e2⟩:=h4';subst e1 e2;rw [norm_eq h2 h2' (by omega) (fun h=>by omega) (fun h=>by omega) (fun h=>by omega),ih _ h5',ih1 _ h6']
 |chan f a v t h1 h2 h3 h4 _ ih=>
  intro t' h';generalize hv:Value.iface 150 (.pointer (some ⟨a,0,none⟩))=v at h';cases h' <;>simp at hv
  rename_i f' v' t' h1' h2' h3' h4' h5';subst hv;rw [h4] at h4';simp at h4';obtain ⟨e1,e2⟩:=h4';subst e2;rw [norm_eq h2 h2' (by omega) (fun _=>by omega) (fun h=>by omega) (fun h=>by omega),ih _ h5']
 |struct f a fa fc vs ts h1 h2 hn h3 h4 h5 h6 h7 h8 _ ih=>
  intro t' h';generalize hv:Value.iface 156 (.pointer (some ⟨a,0,none⟩))=v at h';cases h' <;>simp at hv
  rename_i f' fa' fc' vs' ts' h1' h2' hn' h3' h4' h5' h6' h7' h8' h9';subst hv;rw [h4] at h4';simp at h4';obtain ⟨e1,e2,e3⟩:=h4';subst e1;obtain ⟨e4,e5⟩:=h8.det h8' e2;subst e4;have e6:=e5 (by omega) (by omega);rw [norm_eq h2 h2' (by omega) (fun h=>by omega) (fun h=>by omega) (fun _=>e6),lists_eq h5 h5' (fun i v t hv ht=>ih i v t hv ht) h9']
 |func f a pp rp vs ts h1 h2 hn h3 h4 h5 h6 h7 _ ih=>
  intro t' h';generalize hv:Value.iface 128 (.pointer (some ⟨a,0,none⟩))=v at h';cases h' <;>simp at hv
  rename_i f' a' pp' rp' vs' ts' h1' h2' hn' h3' h4' h5' h6' h7' h9';subst hv;rw [h4] at h4';simp at h4';obtain ⟨e1,e2,e3⟩:=h4';subst e1 e2;have e4:=h6.det h6';have e5:=h7.det h7';have hc:f.cnt=f'.cnt:=by
   have:=congrArg List.length e4;rw [List.length_take,List.length_take] at this;omega
  have e6:vs=vs':=by rw [<-List.take_append_drop f.cnt vs,e4,e5,List.take_append_drop]
  subst e6;rw [norm_eq h2 h2' (by omega) (fun h=>by omega) (fun _=>⟨hc,e3⟩) (fun h=>by omega),lists_eq h5 h5' (fun i v t hv ht=>ih i v t hv ht) h9']
 |named0 f c0 c1 c2 c4 c5 u c9 c10 st h1 h2 h3 h4 h5 h6 _ _=>
  intro t' h';generalize hv:Value.iface 106 (.pointer (some ⟨E.nm f.n,0,none⟩))=v at h';cases h' <;>simp at hv
  ·rename_i f' c0' c1' c2' c4' c5' u' c9' c10' st' h1' h2' h3' h4' h5' h6' _
   have hn:=hE.injn _ _ h3 h3' hv;rw [norm_eq h2 h2' (by omega) (fun _=>hn) (fun h=>by omega) (fun h=>by omega)]
  ·rename_i f' a' ib' lb' ta' tc' c0' c1' c2' c4' c5' u' c9' c10' st' vs' ts' h1' h2' h3' hne' h4' h5' h6' h7' h8' h9' h10' h11' h12' h13' h14' h15' h16'
   subst hv;rw [h5] at h5';simp at h5'
 |named f a ib lb ta tc c0 c1 c2 c4 c5 u c9 c10 st vs ts h1 h2 h3 hne h4 h5 h6 h7 h8 h9 h10 h11 h12 h13 h14 _ _ ih _=>
  intro t' h';generalize hv:Value.iface 106 (.pointer (some ⟨a,0,none⟩))=v at h';cases h' <;>simp at hv
  ·rename_i f' c0' c1' c2' c4' c5' u' c9' c10' st' h1' h2' h3' h4' h5' h6' _
   subst hv;rw [h5] at h5';simp at h5'
  ·rename_i f' ib' lb' ta' tc' c0' c1' c2' c4' c5' u' c9' c10' st' vs' ts' h1' h2' h3' hne' h4' h5' h6' h7' h8' h9' h10' h11' h12' h13' h14' h15' h16'
   subst hv;rw [h5] at h5';simp at h5';obtain ⟨_,_,_,e1,_⟩:=h5';subst e1;rw [h8] at h8';simp at h8';obtain ⟨e2,e3⟩:=h8';subst e3;rw [h10] at h10';simp at h10';obtain ⟨e4,e5,e6⟩:=h10';subst e4;have e7:=h14.det h14' e5;subst e7;have hn:=hE.injn _ _ h3 h3' e2;rw [norm_eq h2 h2' (by omega) (fun _=>hn) (fun h=>by omega) (fun h=>by omega),lists_eq h11 h11' (fun i v t hv ht=>ih i v t hv ht) h15']
end Go.Proofs.YtpekidjfbinekaaGreatDoor
