/- G12, G13, G14 -/
import Derived.Test.YtpekidjfbinekaaGreatDoorA13
set_option maxRecDepth 100000
set_option maxHeartbeats 60000000
set_option linter.all false
namespace Go.Proofs.YtpekidjfbinekaaGreatDoor
open Go.RowKit Uni
theorem nmatch_none {step:St->Tm->Tm->Uni.Mode->Option (Option St)}{s:St}{p:Nat}{t:Tm}{m:Uni.Mode}{r:Option St}(h:yB step s p t m=some r)(hv:s.v (s.j p)=none):r=some (s.putAt (s.j p) t):=by
 unfold yB at h;simp only [St.get,hv] at h;exact (Option.some.inj h).symm
def MatchR (s':St)(p:Nat)(k t:Tm)(m:Uni.Mode)(r:Option St):Prop:=
 (m= .exact\/xR k=true->r=some s')/\(m≠ .exact->xR k=false->(xR t=true\/dirChan t=true->r=some (s'.putAt (s'.j p) t))/\(xR t=false->dirChan t=false->r=some s'))
theorem nmatch_some {step:St->Tm->Tm->Uni.Mode->Option (Option St)}{s:St}{p:Nat}{t k:Tm}{m:Uni.Mode}{r:Option St}(h:yB step s p t m=some r)(hv:s.v (s.j p)=some k):
 ∃r1,step s k t m=some r1/\(r1=none->r=none)/\ ∀s',r1=some s'->MatchR s' p k t m r:=by
 unfold yB at h;simp only [St.get,hv] at h
 cases hs:step s k t m with
 |none=>rw [hs] at h;cases h
 |some r1=>
  refine ⟨r1,rfl,?_,?_⟩
  ·rintro rfl;rw [hs] at h;exact (Option.some.inj h).symm
  ·rintro s' rfl
   rw [hs] at h;dsimp only at h;refine ⟨fun h1=> ?_,fun h1 h2=>⟨fun h3=> ?_,fun h3 h4=> ?_⟩⟩
   ·rw [if_pos h1] at h;exact (Option.some.inj h).symm
   ·rw [if_neg (by rintro (h' | h');exact h1 h';rw [h2] at h';cases h'),if_pos h3] at h;exact (Option.some.inj h).symm
   ·rw [if_neg (by rintro (h' | h');exact h1 h';rw [h2] at h';cases h'),if_neg (by rw [h3,h4];simp)] at h;exact (Option.some.inj h).symm
theorem PT.named_iff {w:World}{E:GEnv}{v:Value}{f:Lab}{ts:List Tm}(h:PT w E v (.node f ts)):tyOf (.node f ts)=106↔f.kind=1:=by
 unfold tyOf;dsimp only;constructor
 ·intro h
  split at h <;>first | assumption | exact absurd h (by decide)
 ·intro h;simp only [h]
theorem xW (f:Lab)(ts:List Tm):xR (.node f ts)=decide (f.kind=1):=by
 simp [xR,Tm.kind,Uni.isVar];rfl
theorem tyOf_95 (f:Lab)(ts:List Tm): ¬tyOf (.node f ts)=95:=by
 unfold tyOf;dsimp only;split <;>decide
def UndBy (ty:TypeId)(fn:Nat):Prop:=wW ty=some fn/\(∀(pv:Value)(w:World),Calls Tryz.prog fn #[pv] w fun e w'=>e= .returned (.iface ty pv)/\w'=w)/\ ∀args w,(callFunc fn args).run Tryz.prog w= .ok (.enter fn args) w
theorem yY {f:Nat}{fn:Func}(hf:Tryz.prog.funcs[f]?=some fn)(hn:(fn.name== "runtime.NumGoroutine")=false)(hb:fn.body.isNone=false)(args:Array Value)(w:World):(callFunc f args).run Tryz.prog w= .ok (.enter f args) w:=by
 have hn':fn.name≠ "runtime.NumGoroutine" :=by intro h;rw [h] at hn;simp at hn
 have hb': ¬fn.body=none:=by intro h;rw [h] at hb;simp at hb
 simp [callFunc,hf,hn',hb']
theorem und142:UndBy 142 292:=by
 refine ⟨m142,fun pv w=> ?_,yY Tryz.func292 (by kernel_rfl) (by kernel_rfl)⟩;go_enter Tryz.func292,Tryz.ntmps292;go_wp2;go_ret;exact ⟨rfl,rfl⟩
theorem und144:UndBy 144 293:=by
 refine ⟨m144,fun pv w=> ?_,yY Tryz.func293 (by kernel_rfl) (by kernel_rfl)⟩;go_enter Tryz.func293,Tryz.ntmps293;go_wp2;go_ret;exact ⟨rfl,rfl⟩
theorem und146:UndBy 146 294:=by
 refine ⟨m146,fun pv w=> ?_,yY Tryz.func294 (by kernel_rfl) (by kernel_rfl)⟩;go_enter Tryz.func294,Tryz.ntmps294;go_wp2;go_ret;exact ⟨rfl,rfl⟩
theorem und148:UndBy 148 295:=by
 refine ⟨m148,fun pv w=> ?_,yY Tryz.func295 (by kernel_rfl) (by kernel_rfl)⟩;go_enter Tryz.func295,Tryz.ntmps295;go_wp2;go_ret;exact ⟨rfl,rfl⟩
theorem und150:UndBy 150 296:=by
 refine ⟨m150,fun pv w=> ?_,yY Tryz.func296 (by kernel_rfl) (by kernel_rfl)⟩;go_enter Tryz.func296,Tryz.ntmps296;go_wp2;go_ret;exact ⟨rfl,rfl⟩
theorem und156:UndBy 156 297:=by
 refine ⟨m156,fun pv w=> ?_,yY Tryz.func297 (by kernel_rfl) (by kernel_rfl)⟩;go_enter Tryz.func297,Tryz.ntmps297;go_wp2;go_ret;exact ⟨rfl,rfl⟩
theorem und128:UndBy 128 289:=by
 refine ⟨m128,fun pv w=> ?_,yY Tryz.func289 (by kernel_rfl) (by kernel_rfl)⟩;go_enter Tryz.func289,Tryz.ntmps289;go_wp2;go_ret;exact ⟨rfl,rfl⟩
theorem und179:UndBy 179 300:=by
 refine ⟨m179,fun pv w=> ?_,yY Tryz.func300 (by kernel_rfl) (by kernel_rfl)⟩;go_enter Tryz.func300,Tryz.ntmps300;go_wp2;go_ret;exact ⟨rfl,rfl⟩
theorem und_lit {w:World}{E:GEnv}{v:Value}{f:Lab}{ts:List Tm}(h:PT w E v (.node f ts))(hk:f.kind≠1): ∃fn,UndBy (tyOf (.node f ts)) fn:=by
 cases h with
 |basic f a i nm h1=>exact ⟨300,by simp only [tyOf,h1];exact und179⟩
 |ptr f a v t h1=>exact ⟨292,by simp only [tyOf,h1];exact und142⟩
 |slice f a v t h1=>exact ⟨293,by simp only [tyOf,h1];exact und144⟩
 |array f a v t h1=>exact ⟨294,by simp only [tyOf,h1];exact und146⟩
 |map f a v v' t t' h1=>exact ⟨295,by simp only [tyOf,h1];exact und148⟩
 |chan f a v t h1=>exact ⟨296,by simp only [tyOf,h1];exact und150⟩
 |struct f a fa fc vs ts h1=>exact ⟨297,by simp only [tyOf,h1];exact und156⟩
 |func f a pp rp vs ts h1=>exact ⟨289,by simp only [tyOf,h1];exact und128⟩
 |named0 f c0 c1 c2 c4 c5 u c9 c10 st h1=>exact absurd h1 hk
 |named f a ib lb ta tc c0 c1 c2 c4 c5 u c9 c10 st vs ts h1=>exact absurd h1 hk
theorem asInterface_var (pv:Value)(w:World):Calls Tryz.prog 167 #[.iface 95 pv] w fun e w'=>e= .returned (.pointer none)/\w'=w:=by
 have A:=zD p95;have A2:=zD p99;have hnot: ∀(x:Bool) (w:World),(Op.unary .not (.bool x)).run Tryz.prog w= .ok (.bool (!x)) w:=fun _ _=>rfl
 go_enter Tryz.func167,Tryz.ntmps167;go_wp2_with fail
 refine (zM _ _ _ (by decide)).mono ?_;rintro e w1 ⟨rfl,rfl⟩;go_wp2;go_ret;exact ⟨rfl,rfl⟩
theorem asInterface_all {w:World}{E:GEnv}(hE:EnvOk w E){v:Value}{t:Tm}(h:PT w E v t):Calls Tryz.prog 167 #[v] w fun e w'=>e= .returned (.pointer none)/\w'=w:=by
 cases t with
 |node f ts=>exact asInterface_any hE h
 |var p=>cases h with | var p hp=>exact asInterface_var _ w
theorem PT.named_all {w:World}{E:GEnv}{v:Value}{t:Tm}(h:PT w E v t):tyOf t=106↔xR t=true:=by
 cases t with
 |node f ts=>rw [h.named_iff,xW];simp
 |var p=>simp [tyOf,xR,Uni.isVar]
theorem PT.dir {w:World}{E:GEnv}{v:Value}{f:Lab}{ts:List Tm}(h:PT w E v (.node f ts)):(tyOf (.node f ts)=150-> ∃a c1,v= .iface 150 (.pointer (some ⟨a,0,none⟩))/\ ¬E.A a/\w.heap[a]?=some (.cells #[.int .i64 f.n,c1] 215 (0,0))/\dirChan (.node f ts)=decide (f.n≠0))/\(¬tyOf (.node f ts)=150->dirChan (.node f ts)=false):=by
 have hT:tyOf (.node f ts)=150↔f.kind=8:=by
  unfold tyOf;dsimp only;constructor
  ·intro h
   split at h <;>first | assumption | exact absurd h (by decide)
  ·intro h;simp only [h]
 refine ⟨fun ht=> ?_,fun ht=> ?_⟩
 ·have hk:=hT.1 ht
  cases h with
  |chan f a v t h1 h2 h3 h4=>exact ⟨a,v,rfl,h3,h4,by simp [dirChan,h1];rfl⟩
  |basic f a i nm h1=>omega
  |ptr f a v t h1=>omega
  |slice f a v t h1=>omega
  |array f a v t h1=>omega
  |map f a v v' t t' h1=>omega
  |struct f a fa fc vs ts h1=>omega
  |func f a pp rp vs ts h1=>omega
  |named0 f c0 c1 c2 c4 c5 u c9 c10 st h1=>omega
  |named f a ib lb ta tc c0 c1 c2 c4 c5 u c9 c10 st vs ts h1=>omega
 ·have hk: ¬f.kind=8:=fun h=>ht (hT.2 h)
  simp [dirChan,hk]
theorem yV:
 (∀ {E:GEnv} {k:Nat} (hS:xU E k) (p:Nat) (g:Lab) (bs:List Tm) (vy:Value) (m:Uni.Mode) (z:Int) (w:World) (U bm:Nat) (hd:Nat->Addr) (s:St) (depth:Int) (r:Option St) (hdk:depth + (k + 1:Nat)=50) (h0:0<=depth) (hp:p < E.n) (hr:yB (zJ E.D k) s p (.node g bs) m=some r) (hm:yR m z) (hE:EnvOk w E) (hN:NRep w E U bm hd s depth) (hy:PT w E vy (.node g bs)) (hx:m= .exact) (hnk: ¬g.kind=1),
  Calls Tryz.prog 132 #[.pointer (some ⟨U,0,none⟩),.iface 95 (.pointer (some (E.tp p))),vy,.int .u64 z,.pointer none] w (xM w E U bm depth r))/\
 (∀ {E:GEnv} {k:Nat} (hS:xU E k) (p:Nat) (g:Lab) (bs:List Tm) (vy:Value) (m:Uni.Mode) (z:Int) (w:World) (U bm:Nat) (hd:Nat->Addr) (s:St) (depth:Int) (r:Option St) (hdk:depth + (k + 1:Nat)=50) (h0:0<=depth) (hp:p < E.n) (hr:yB (zJ E.D k) s p (.node g bs) m=some r) (hm:yR m z) (hE:EnvOk w E) (hN:NRep w E U bm hd s depth) (hy:PT w E vy (.node g bs)) (hx:m= .exact) (hnk:g.kind=1),
  Calls Tryz.prog 132 #[.pointer (some ⟨U,0,none⟩),.iface 95 (.pointer (some (E.tp p))),vy,.int .u64 z,.pointer none] w (xM w E U bm depth r))/\
 (∀ {E:GEnv} {k:Nat} (hS:xU E k) (p:Nat) (g:Lab) (bs:List Tm) (vy:Value) (m:Uni.Mode) (z:Int) (w:World) (U bm:Nat) (hd:Nat->Addr) (s:St) (depth:Int) (r:Option St) (hdk:depth + (k + 1:Nat)=50) (h0:0<=depth) (hp:p < E.n) (hr:yB (zJ E.D k) s p (.node g bs) m=some r) (hm:yR m z) (hE:EnvOk w E) (hN:NRep w E U bm hd s depth) (hy:PT w E vy (.node g bs)) (hx:m≠ .exact) (hnk: ¬g.kind=1),
  Calls Tryz.prog 132 #[.pointer (some ⟨U,0,none⟩),.iface 95 (.pointer (some (E.tp p))),vy,.int .u64 z,.pointer none] w (xM w E U bm depth r))/\
 (∀ {E:GEnv} {k:Nat} (hS:xU E k) (p:Nat) (g:Lab) (bs:List Tm) (vy:Value) (m:Uni.Mode) (z:Int) (w:World) (U bm:Nat) (hd:Nat->Addr) (s:St) (depth:Int) (r:Option St) (hdk:depth + (k + 1:Nat)=50) (h0:0<=depth) (hp:p < E.n) (hr:yB (zJ E.D k) s p (.node g bs) m=some r) (hm:yR m z) (hE:EnvOk w E) (hN:NRep w E U bm hd s depth) (hy:PT w E vy (.node g bs)) (hx:m≠ .exact) (hnk:g.kind=1),
  Calls Tryz.prog 132 #[.pointer (some ⟨U,0,none⟩),.iface 95 (.pointer (some (E.tp p))),vy,.int .u64 z,.pointer none] w (xM w E U bm depth r))/\
 (∀ {E:GEnv} {k:Nat} (hS:xU E k) (p:Nat) (g:Lab) (bs:List Tm) (vy:Value) (m:Uni.Mode) (z:Int) (w:World) (U bm:Nat) (hd:Nat->Addr) (s:St) (depth:Int) (r:Option St) (hdk:depth + (k + 1:Nat)=50) (h0:0<=depth) (hp:p < E.n) (hr:yB (zJ E.D k) s p (.node g bs) m=some r) (hm:yR m z) (hE:EnvOk w E) (hN:NRep w E U bm hd s depth) (hy:PT w E vy (.node g bs)) (hx:m= .exact) (hnk: ¬g.kind=1),
  Calls Tryz.prog 132 #[.pointer (some ⟨U,0,none⟩),vy,.iface 95 (.pointer (some (E.tp p))),.int .u64 z,.pointer none] w (xM w E U bm depth r))/\
 (∀ {E:GEnv} {k:Nat} (hS:xU E k) (p:Nat) (g:Lab) (bs:List Tm) (vy:Value) (m:Uni.Mode) (z:Int) (w:World) (U bm:Nat) (hd:Nat->Addr) (s:St) (depth:Int) (r:Option St) (hdk:depth + (k + 1:Nat)=50) (h0:0<=depth) (hp:p < E.n) (hr:yB (zJ E.D k) s p (.node g bs) m=some r) (hm:yR m z) (hE:EnvOk w E) (hN:NRep w E U bm hd s depth) (hy:PT w E vy (.node g bs)) (hx:m= .exact) (hnk:g.kind=1),
  Calls Tryz.prog 132 #[.pointer (some ⟨U,0,none⟩),vy,.iface 95 (.pointer (some (E.tp p))),.int .u64 z,.pointer none] w (xM w E U bm depth r))/\
 (∀ {E:GEnv} {k:Nat} (hS:xU E k) (p:Nat) (g:Lab) (bs:List Tm) (vy:Value) (m:Uni.Mode) (z:Int) (w:World) (U bm:Nat) (hd:Nat->Addr) (s:St) (depth:Int) (r:Option St) (hdk:depth + (k + 1:Nat)=50) (h0:0<=depth) (hp:p < E.n) (hr:yB (zJ E.D k) s p (.node g bs) m=some r) (hm:yR m z) (hE:EnvOk w E) (hN:NRep w E U bm hd s depth) (hy:PT w E vy (.node g bs)) (hx:m≠ .exact) (hnk: ¬g.kind=1),
  Calls Tryz.prog 132 #[.pointer (some ⟨U,0,none⟩),vy,.iface 95 (.pointer (some (E.tp p))),.int .u64 z,.pointer none] w (xM w E U bm depth r))/\
 (∀ {E:GEnv} {k:Nat} (hS:xU E k) (p:Nat) (g:Lab) (bs:List Tm) (vy:Value) (m:Uni.Mode) (z:Int) (w:World) (U bm:Nat) (hd:Nat->Addr) (s:St) (depth:Int) (r:Option St) (hdk:depth + (k + 1:Nat)=50) (h0:0<=depth) (hp:p < E.n) (hr:yB (zJ E.D k) s p (.node g bs) m=some r) (hm:yR m z) (hE:EnvOk w E) (hN:NRep w E U bm hd s depth) (hy:PT w E vy (.node g bs)) (hx:m≠ .exact) (hnk:g.kind=1),
  Calls Tryz.prog 132 #[.pointer (some ⟨U,0,none⟩),vy,.iface 95 (.pointer (some (E.tp p))),.int .u64 z,.pointer none] w (xM w E U bm depth r)):=by
 refine ⟨@fun E k hS p g bs vy m z w U bm hd s depth r hdk h0 hp hr hm hE hN hy hx hnk=>have tg:Fin 1:=0;?_,@fun E k hS p g bs vy m z w U bm hd s depth r hdk h0 hp hr hm hE hN hy hx hnk=>have tg:Fin 2:=0;?_,@fun E k hS p g bs vy m z w U bm hd s depth r hdk h0 hp hr hm hE hN hy hx hnk=>have tg:Fin 3:=0;?_,@fun E k hS p g bs vy m z w U bm hd s depth r hdk h0 hp hr hm hE hN hy hx hnk=>have tg:Fin 4:=0;?_,@fun E k hS p g bs vy m z w U bm hd s depth r hdk h0 hp hr hm hE hN hy hx hnk=>have tg:Fin 5:=0;?_,@fun E k hS p g bs vy m z w U bm hd s depth r hdk h0 hp hr hm hE hN hy hx hnk=>have tg:Fin 6:=0;?_,@fun E k hS p g bs vy m z w U bm hd s depth r hdk h0 hp hr hm hE hN hy hx hnk=>have tg:Fin 7:=0;?_,@fun E k hS p g bs vy m z w U bm hd s depth r hdk h0 hp hr hm hE hN hy hx hnk=>have tg:Fin 8:=0;?_⟩
 all_goals
  have hmf: ∀(fn:Fn) (first cap:Array Value) (w:World),(Instr.makeFunc fn first cap).run Tryz.prog w= .ok (.func fn first cap) w:=fun _ _ _ _=>rfl
  have hN1:=hN.enter (.cells #[.pointer (some ⟨U,0,none⟩)] 173);have FA1:Fr E.A w ((w.setCell ⟨U,2,none⟩ (.int .i64 (depth + 1))).alloc (.cells #[.pointer (some ⟨U,0,none⟩)] 173)):=((Fr.refl E.A w).setCell (p:=⟨U,2,none⟩) (.inl hN.AU) _).alloc _;have SC:(w.setCell ⟨U,2,none⟩ (.int .i64 (depth + 1))).heap.size=w.heap.size:=by simp [World.setCell]
  have BX1:((w.setCell ⟨U,2,none⟩ (.int .i64 (depth + 1))).alloc (.cells #[.pointer (some ⟨U,0,none⟩)] 173)).heap[w.heap.size]?=some (.cells #[.pointer (some ⟨U,0,none⟩)] 173 (0,0)):=by have h:=heap_alloc_new (w.setCell ⟨U,2,none⟩ (.int .i64 (depth + 1))) (.cells #[.pointer (some ⟨U,0,none⟩)] 173);rw [SC] at h;exact h
  have hE1:=hE.keep FA1;have qu:=zA hN.u;have fu:=zC hN.u;have szu:=bl (qu 0);dsimp only at szu;obtain ⟨cp,tcp,kp⟩:=hE1.keys.cells p hp;obtain ⟨a,ca,tca,rfl,ao,asp,haA,ha⟩:=hy.form hE;have ka:=FA1.heap haA ha;have t95:=tyOf_95 g bs;have t283:=(tyOf_ne (.node g bs)).2.1
  first
  |first | rename Fin 1=>tg | rename Fin 2=>tg | rename Fin 3=>tg | rename Fin 4=>tg
   have heq:=wC (eqTy (.var p)) (t2:=tyOf (.node g bs)) kp ka;rw [show decide (tyOf (.var p)=tyOf (.node g bs)/\E.tp p=a)=false by rw [show tyOf (.var p)=95 from rfl];simp [Ne.symm t95]] at heq;change (binOp .eql 103 (.iface 95 (.pointer (some (E.tp p)))) (.iface (tyOf (.node g bs)) (.pointer (some a)))).run Tryz.prog _=_ at heq
  |have heq:=wC (eqTy (.node g bs)) (t2:=95) ka kp
   rw [show decide (tyOf (.node g bs)=95/\a=E.tp p)=false by simp [t95]] at heq;change (binOp .eql 103 (.iface (tyOf (.node g bs)) (.pointer (some a))) (.iface 95 (.pointer (some (E.tp p))))).run Tryz.prog _=_ at heq
  have hni:=(PT.named_iff hy);have hdir:=hy.dir;have hfn:=und_lit hy;have hty:=tyOf_ne (.node g bs);have hT: ∃ty,ty=tyOf (.node g bs):=⟨_,rfl⟩;obtain ⟨ty,HT⟩:=hT;rw [<-HT] at t95 t283 heq hni hdir hfn hy hty;rw [<-HT];have hnp: ∀(a:Addr) (w:World),(binOp .neq 95 (.pointer (some a)) (.pointer none)).run Tryz.prog w= .ok (.bool true) w:=fun a w=>rfl
  have hnn: ∀(w:World),(binOp .neq 106 (.pointer none) (.pointer none)).run Tryz.prog w= .ok (.bool false) w:=fun w=>rfl
  have hnq: ∀(a:Addr) (w:World),(binOp .neq 106 (.pointer (some a)) (.pointer none)).run Tryz.prog w= .ok (.bool true) w:=fun a w=>rfl
  have hno: ∀(w:World),(binOp .neq 95 (.pointer none) (.pointer none)).run Tryz.prog w= .ok (.bool false) w:=fun w=>rfl
  have hni9: ∀(w:World),(binOp .neq 99 (.pointer none) (.pointer none)).run Tryz.prog w= .ok (.bool false) w:=fun w=>rfl
  have hn150: ∀(a:Addr) (w:World),(binOp .neq 150 (.pointer (some a)) (.pointer none)).run Tryz.prog w= .ok (.bool true) w:=fun a w=>rfl
  have hn150n: ∀(w:World),(binOp .neq 150 (.pointer none) (.pointer none)).run Tryz.prog w= .ok (.bool false) w:=fun w=>rfl
  have nnq:=fun (ty:TypeId) v w=>run_neq_nil ty v w
  have nnz:=fun w=>run_neq_nil2 w
  have A150:=zD p150;have hty3:=hty.1;have NB:=hid (fun h=>Nat.lt_irrefl _ (hE.below w.heap.size h): ¬E.A w.heap.size);have HN1:=hid hN1;have FA:=hid FA1;have BX:=hid BX1;have HE:=hid hE1;have HS:=hid hS;have HR:=hid hr;have HM:=hid hm;have HP:=hid hp;have HY:=hid (PT.keep hy FA1);have HNI:=hid hni;have HD:=hid hdir;have HF:=hid hfn;have HTY:=hid HT;have HTE:=hid hty;have HA:=hid haA;clear hN1 FA1 BX1 hE hE1 hN SC kp ka hS hr hp hm hy hni hdir hfn HT hty ha haA ao asp
  have HX:=hid hx
  first
  |first | rename Fin 1=>tg | rename Fin 5=>tg
   have hand:=and2_ex HM.out hx;have htn: ¬ty=106:=fun h=>hnk (HNI.out.1 h)
  |first | rename Fin 2=>tg | rename Fin 6=>tg
   have hand:=and2_ex HM.out hx;have htn:ty=106:=HNI.out.2 hnk
  |first | rename Fin 3=>tg | rename Fin 7=>tg
   have hand:=and2_in HM.out hx;have htn: ¬ty=106:=fun h=>hnk (HNI.out.1 h)
  |have hand:=and2_in HM.out hx
   have htn:ty=106:=HNI.out.2 hnk
  clear hx hnk
  first
  |first | rename Fin 1=>tg | rename Fin 3=>tg | rename Fin 5=>tg | rename Fin 7=>tg
   have HTN:=hid htn;obtain ⟨fn,hfn⟩:=HF.out (fun h=>HTN.out (HNI.out.2 h));have HUND:=hid hfn;have HMT:=fun pv w=>yJ hfn.1 551 pv w
   have HCF:=fun args w=>hfn.2.2 args w
   clear hfn
  |subst htn
  go_enter_defers Tryz.func132,Tryz.ntmps132;go_wp2_with fail
  generalize ((w.setCell ⟨U,2,none⟩ (.int .i64 (depth + 1))).alloc (.cells #[.pointer (some ⟨U,0,none⟩)] 173))=WX at HN1 FA BX HE HY heq ⊢;clear qu fu szu;have qu:=zA HN1.out.u;have fu:=zC HN1.out.u;have szu:=bl (qu 0);have qb:=zA BX.out;have szb:=bl (qb 0);dsimp only at szu szb;refine (zM _ _ _ (by first | decide | assumption)).mono ?_;rintro e w1 ⟨rfl,rfl⟩;go_wp2_with fail
  refine (zM _ _ _ (by first | decide | assumption)).mono ?_;rintro e w1 ⟨rfl,rfl⟩;go_wp2_with fail
  refine (yI _ _ _ (by first | decide | assumption)).mono ?_;rintro e w1 ⟨rfl,rfl⟩;go_wp2_with fail
  first
  |first | rename Fin 5=>tg | rename Fin 7=>tg
   refine (bound_var HE.out HN1.out _ HP.out).mono ?_;rintro e w1 ⟨rfl,rfl⟩;go_wp2_with fail
  |first | rename Fin 6=>tg | rename Fin 8=>tg
  |refine (yH _ _ (by first | decide | assumption) (by first | decide | assumption)).mono ?_
   rintro e w1 ⟨rfl,rfl⟩;go_wp2_with fail
  refine (yI _ _ _ (by first | decide | assumption)).mono ?_;rintro e w1 ⟨rfl,rfl⟩;go_wp2_with fail
  first
  |first | rename Fin 4=>tg | rename Fin 8=>tg
   refine (isTypeLit_any _ _ _ (by decide)).mono ?_;rintro e w1 ⟨rfl,rfl⟩;go_wp2_with fail
  |skip
  have BV:=hid (fun (n:Nat)=>bound_var (w:=w1.drewN n) (HE.out.keep ((Fr.refl _ w1).drawn n)) (HN1.out.keep ((Fr.refl _ w1).drawn n)) p HP.out)
  first
  |first | rename Fin 1=>tg | rename Fin 3=>tg | rename Fin 5=>tg | rename Fin 7=>tg
   have BO:=hid (fun (n:Nat)=>yH (U:=U) (w:=w1.drewN n) ty (.pointer (some a)) (by first | decide | assumption) (by first | decide | assumption))
  |have BO:=hid (fun (n:Nat)=>yH (U:=U) (w:=w1.drewN n) 106 (.pointer (some a)) (by first | decide | assumption) (by first | decide | assumption))
  go_quiet (first | (go_at_call 162;with_reducible exact Calls.quiet_of_same (BV.out _)) | (go_at_call 162;with_reducible exact Calls.quiet_of_same (BO.out _)));have FJ1:=hid ((Fr.refl (fun _=>False) w1).drawn nq);have FA2:=hid (FA.out.trans FJ1.out.sub);have BX2:=hid (FJ1.out.heap id BX.out);have HN2:=hid (HN1.out.keep FJ1.out);have HE2:=hid (HE.out.keep FJ1.out.sub);have HY2:=hid (HY.out.keep FJ1.out.sub)
  generalize w1.drewN nq=w2 at FJ1 FA2 BX2 HN2 HE2 HY2 ⊢;clear BV BO heq qu fu szu qb szb FA BX HN1 HE HY;have qb:=zA BX2.out;have szb:=bl (qb 0);dsimp only at szb;go_wp2_with fail
  have hV:s.v (s.j p)=none\/ ∃kt,s.v (s.j p)=some kt:=by cases s.v (s.j p) with | none=>exact .inl rfl | some kt=>exact .inr ⟨kt,rfl⟩
  rcases hV with hv | ⟨kt,hv⟩
  ·have HV:=hid hv;clear hv
   refine (at_none HE2.out HN2.out p HP.out HV.out).mono ?_;rintro e w3 ⟨rfl,rfl⟩;go_wp2_with fail
   refine (set_go HE2.out HN2.out p HP.out _ _ HY2.out).mono ?_;rintro e w4 ⟨rfl,hn4,hf4⟩;have HN4:=hid hn4;have FA4:=hid (FA2.out.trans hf4);have BX4:=hid (hf4.heap NB.out BX2.out);clear hn4 hf4 qb szb;go_wp2;refine leaves_cons (f:=161) (args:= #[.pointer (some ⟨w.heap.size,0,none⟩)]) (by simp) (by simp [go_sem]) ?_;refine (wF _ U _ _ _ _ .returning _ (BX4.out) (HN4.out).u (by omega) (by omega)).mono ?_
   rintro e u' w'' ⟨rfl,rfl,rfl⟩;refine ⟨_,results_tmp rfl _ _ _,?_⟩;refine ⟨by rw [nmatch_none HR.out HV.out];rfl,(FA4.out).setCell (.inl (HN4.out).AU) _,_,_,by have h:=(HN4.out).setDepth (depth + 1 - 1);rw [show depth + 1 - 1=depth by omega] at h ⊢;exact h,fun s1 h=>by rw [nmatch_none HR.out HV.out] at h;exact Option.some.inj h⟩
  ·have HV:=hid hv;clear hv
   obtain ⟨r1,hr1,hrn,hrs⟩:=nmatch_some HR.out HV.out;have HR1:=hid hr1;have HRN:=hid hrn;have HRS:=hid hrs;clear hr1 hrn hrs;refine (at_known HE2.out HN2.out p HP.out kt HV.out).mono ?_;rintro e w3 ⟨vk,rfl,hvk,rfl⟩;have HVK:=hid hvk;obtain ⟨ak,_,_,rfl,_,_,hkA,_⟩:=hvk.form HE2.out;have k283:=(tyOf_ne kt).2.1;have HKN:=hid (PT.named_all hvk);clear hvk hkA;obtain ⟨tk,hTK⟩: ∃tk,tk=tyOf kt:=⟨_,rfl⟩;rw [<-hTK] at HVK HKN k283 ⊢
   clear hTK;go_wp2_with fail
   refine (HS.out _ _ _ _ m z _ U bm hd s (depth + 1) r1 (by omega) HR1.out HM.out HE2.out HN2.out HVK.out HY2.out).mono ?_;rintro e w4 ⟨rfl,hf4,s4,hd4,hn4,hs4⟩;have HN4:=hid hn4;have FA4:=hid (FA2.out.trans hf4);have BX4:=hid (hf4.heap NB.out BX2.out);have HE4:=hid (HE2.out.keep hf4);have HY4:=hid (HY2.out.keep hf4);have HK4:=hid (HVK.out.keep hf4);clear hn4 hf4 qb szb;have qb:=zA BX4.out;have szb:=bl (qb 0)
   dsimp only at szb
   cases r1 with
   |none=>
    have hr0:=HRN.out rfl;subst hr0;simp only [Option.isSome_none];go_wp2;refine leaves_cons (f:=161) (args:= #[.pointer (some ⟨w.heap.size,0,none⟩)]) (by simp) (by simp [go_sem]) ?_;refine (wF _ U _ _ _ _ .returning _ (BX4.out) (HN4.out).u (by omega) (by omega)).mono ?_;rintro e u' w'' ⟨rfl,rfl,rfl⟩;refine ⟨_,results_tmp rfl _ _ _,?_⟩;refine ⟨rfl,(FA4.out).setCell (.inl (HN4.out).AU) _,_,_,by have h:=(HN4.out).setDepth (depth + 1 - 1);rw [show depth + 1 - 1=depth by omega] at h ⊢;exact h,fun s1 h=>by cases h⟩
   |some s4'=>
    have h:=hs4 _ rfl;subst h;clear hs4;have HMR:=hid (HRS.out _ rfl);simp only [Option.isSome_some];go_wp2_with fail
    refine (asInterface_all HE4.out HK4.out).mono ?_;rintro e w5 ⟨rfl,rfl⟩;go_wp2_with fail
    refine (asInterface_any HE4.out HY4.out).mono ?_;rintro e w5 ⟨rfl,rfl⟩;go_wp2_with fail
    have hk1:tk=106\/ ¬tk=106:=by omega
    rcases hk1 with rfl | hk1
    ·refine (yI _ _ _ (by decide)).mono ?_
     rintro e w6 ⟨rfl,rfl⟩;go_wp2_with fail
     refine (yI _ _ _ (by first | decide | assumption)).mono ?_;rintro e w6 ⟨rfl,rfl⟩;go_wp2;refine leaves_cons (f:=161) (args:= #[.pointer (some ⟨w.heap.size,0,none⟩)]) (by simp) (by simp [go_sem]) ?_;refine (wF _ U _ _ _ _ .returning _ (BX4.out) (HN4.out).u (by omega) (by omega)).mono ?_;rintro e u' w'' ⟨rfl,rfl,rfl⟩;refine ⟨_,results_tmp rfl _ _ _,?_⟩;refine ⟨by rw [HMR.out.1 (.inr (HKN.out.1 (by trivial)))];rfl,(FA4.out).setCell (.inl (HN4.out).AU) _,_,_,by have h:=(HN4.out).setDepth (depth + 1 - 1);rw [show depth + 1 - 1=depth by omega] at h ⊢;exact h,fun s1 h=>by rw [HMR.out.1 (.inr (HKN.out.1 (by trivial)))] at h;exact Option.some.inj h⟩
    ·first
     |first | rename Fin 1=>tg | rename Fin 2=>tg | rename Fin 5=>tg | rename Fin 6=>tg
     |have HK1:=hid hk1
     refine (yI _ _ _ (by assumption)).mono ?_;rintro e w6 ⟨rfl,rfl⟩;go_wp2_with fail
     refine (yI _ _ _ (by first | decide | assumption)).mono ?_;rintro e w6 ⟨rfl,rfl⟩
     first
     |first | rename Fin 3=>tg | rename Fin 7=>tg
      go_wp2_with fail
      refine (HUND.out.2.1 _ _).mono ?_;rintro e w6 ⟨rfl,rfl⟩;by_cases h150:ty=150
      ·have HC:=hid (HD.out.1 h150)
       subst h150;obtain ⟨ac,c1,hc0,hcA,hcb,hcd⟩:=HC.out;have hc0:a=⟨ac,0,none⟩:=by cases hc0;rfl
       subst hc0;have HCD:=hid hcd;have qc:=zA (FA4.out.heap hcA hcb);have szc:=bl (qc 0);dsimp only at szc;clear hcb hcA hcd;by_cases hn0:g.n=0
       ·rw [hn0] at qc
        have HN0:=hid hn0;clear hn0;go_wp2;refine leaves_cons (f:=161) (args:= #[.pointer (some ⟨w.heap.size,0,none⟩)]) (by simp) (by simp [go_sem]) ?_;refine (wF _ U _ _ _ _ .returning _ (BX4.out) (HN4.out).u (by omega) (by omega)).mono ?_;rintro e u' w'' ⟨rfl,rfl,rfl⟩;refine ⟨_,results_tmp rfl _ _ _,?_⟩;refine ⟨by rw [(HMR.out.2 HX.out (by rw [<-Bool.not_eq_true];intro h;exact HK1.out (HKN.out.2 h))).2 (by rw [xW];simp;intro h;exact HTN.out (HNI.out.2 h)) (by rw [HCD.out];simp [HN0.out])];rfl,(FA4.out).setCell (.inl (HN4.out).AU) _,_,_,by have h:=(HN4.out).setDepth (depth + 1 - 1);rw [show depth + 1 - 1=depth by omega] at h ⊢;exact h,fun s1 h=>by rw [(HMR.out.2 HX.out (by rw [<-Bool.not_eq_true];intro h;exact HK1.out (HKN.out.2 h))).2 (by rw [xW];simp;intro h;exact HTN.out (HNI.out.2 h)) (by rw [HCD.out];simp [HN0.out])] at h;exact Option.some.inj h⟩
       ·have HN0:=hid hn0
        have hn0': ¬((g.n:Int)=0):=by omega
        clear hn0;go_wp2_with fail
        refine (set_go HE4.out HN4.out p HP.out _ _ HY4.out).mono ?_;rintro e w7 ⟨rfl,hn7,hf7⟩;have HN7:=hid hn7;have FA7:=hid (FA4.out.trans hf7);have BX7:=hid (hf7.heap NB.out BX4.out);clear hn7 hf7 qb szb;go_wp2;refine leaves_cons (f:=161) (args:= #[.pointer (some ⟨w.heap.size,0,none⟩)]) (by simp) (by simp [go_sem]) ?_;refine (wF _ U _ _ _ _ .returning _ (BX7.out) (HN7.out).u (by omega) (by omega)).mono ?_
        rintro e u' w'' ⟨rfl,rfl,rfl⟩;refine ⟨_,results_tmp rfl _ _ _,?_⟩;refine ⟨by rw [(HMR.out.2 HX.out (by rw [<-Bool.not_eq_true];intro h;exact HK1.out (HKN.out.2 h))).1 (.inr (by rw [HCD.out];simp [HN0.out]))];rfl,(FA7.out).setCell (.inl (HN7.out).AU) _,_,_,by have h:=(HN7.out).setDepth (depth + 1 - 1);rw [show depth + 1 - 1=depth by omega] at h ⊢;exact h,fun s1 h=>by rw [(HMR.out.2 HX.out (by rw [<-Bool.not_eq_true];intro h;exact HK1.out (HKN.out.2 h))).1 (.inr (by rw [HCD.out];simp [HN0.out]))] at h;exact Option.some.inj h⟩
      ·have HC:=hid (HD.out.2 h150)
       go_wp2;refine leaves_cons (f:=161) (args:= #[.pointer (some ⟨w.heap.size,0,none⟩)]) (by simp) (by simp [go_sem]) ?_;refine (wF _ U _ _ _ _ .returning _ (BX4.out) (HN4.out).u (by omega) (by omega)).mono ?_;rintro e u' w'' ⟨rfl,rfl,rfl⟩;refine ⟨_,results_tmp rfl _ _ _,?_⟩;refine ⟨by rw [(HMR.out.2 HX.out (by rw [<-Bool.not_eq_true];intro h;exact HK1.out (HKN.out.2 h))).2 (by rw [xW];simp;intro h;exact HTN.out (HNI.out.2 h)) HC.out];rfl,(FA4.out).setCell (.inl (HN4.out).AU) _,_,_,by have h:=(HN4.out).setDepth (depth + 1 - 1);rw [show depth + 1 - 1=depth by omega] at h ⊢;exact h,fun s1 h=>by rw [(HMR.out.2 HX.out (by rw [<-Bool.not_eq_true];intro h;exact HK1.out (HKN.out.2 h))).2 (by rw [xW];simp;intro h;exact HTN.out (HNI.out.2 h)) HC.out] at h;exact Option.some.inj h⟩
     |first | rename Fin 4=>tg | rename Fin 8=>tg
      go_wp2_with fail
      refine (set_go HE4.out HN4.out p HP.out _ _ HY4.out).mono ?_;rintro e w7 ⟨rfl,hn7,hf7⟩;have HN7:=hid hn7;have FA7:=hid (FA4.out.trans hf7);have BX7:=hid (hf7.heap NB.out BX4.out);clear hn7 hf7 qb szb;go_wp2;refine leaves_cons (f:=161) (args:= #[.pointer (some ⟨w.heap.size,0,none⟩)]) (by simp) (by simp [go_sem]) ?_;refine (wF _ U _ _ _ _ .returning _ (BX7.out) (HN7.out).u (by omega) (by omega)).mono ?_
      rintro e u' w'' ⟨rfl,rfl,rfl⟩;refine ⟨_,results_tmp rfl _ _ _,?_⟩;refine ⟨by rw [(HMR.out.2 HX.out (by rw [<-Bool.not_eq_true];intro h;exact HK1.out (HKN.out.2 h))).1 (.inl (by rw [xW];simp [HNI.out.1 (by trivial)]))];rfl,(FA7.out).setCell (.inl (HN7.out).AU) _,_,_,by have h:=(HN7.out).setDepth (depth + 1 - 1);rw [show depth + 1 - 1=depth by omega] at h ⊢;exact h,fun s1 h=>by rw [(HMR.out.2 HX.out (by rw [<-Bool.not_eq_true];intro h;exact HK1.out (HKN.out.2 h))).1 (.inl (by rw [xW];simp [HNI.out.1 (by trivial)]))] at h;exact Option.some.inj h⟩
     |go_wp2
      refine leaves_cons (f:=161) (args:= #[.pointer (some ⟨w.heap.size,0,none⟩)]) (by simp) (by simp [go_sem]) ?_;refine (wF _ U _ _ _ _ .returning _ (BX4.out) (HN4.out).u (by omega) (by omega)).mono ?_;rintro e u' w'' ⟨rfl,rfl,rfl⟩;refine ⟨_,results_tmp rfl _ _ _,?_⟩;refine ⟨by rw [HMR.out.1 (.inl HX.out)];rfl,(FA4.out).setCell (.inl (HN4.out).AU) _,_,_,by have h:=(HN4.out).setDepth (depth + 1 - 1);rw [show depth + 1 - 1=depth by omega] at h ⊢;exact h,fun s1 h=>by rw [HMR.out.1 (.inl HX.out)] at h;exact Option.some.inj h⟩
def xN (D:zE):Nat->Option (St->Tm->Tm->Uni.Mode->Option (Option St))
 |0=>none
 |k + 1=>some (zJ D k)
def EM (m:Uni.Mode)(z o:Int):Prop:=(bits .and .u64 z 1=0/\o=z/\yR (Uni.inner m) o)\/(bits .and .u64 z 1=1/\bits .or .u64 z 2=o/\yR (Uni.inner m) o)
theorem yR.em {m:Uni.Mode}{z:Int}(h:yR m z): ∃o,EM m z o:=by
 rcases h with ⟨rfl,rfl⟩ | ⟨rfl,rfl⟩ | ⟨rfl,rfl | rfl⟩
 ·exact ⟨0,.inl ⟨rfl,rfl,.inl ⟨rfl,rfl⟩⟩⟩
 ·exact ⟨3,.inr ⟨rfl,rfl,.inr (.inr ⟨rfl,.inr rfl⟩)⟩⟩
 ·exact ⟨2,.inl ⟨rfl,rfl,.inr (.inr ⟨rfl,.inl rfl⟩)⟩⟩
 ·exact ⟨3,.inr ⟨rfl,rfl,.inr (.inr ⟨rfl,.inr rfl⟩)⟩⟩
theorem lit_ty (f:Lab)(ts:List Tm)(h: ¬tyOf (.node f ts)=106):tyOf (.node f ts)=179\/tyOf (.node f ts)=146\/tyOf (.node f ts)=144\/tyOf (.node f ts)=156\/tyOf (.node f ts)=142\/tyOf (.node f ts)=128\/tyOf (.node f ts)=148\/tyOf (.node f ts)=150:=by
 revert h;unfold tyOf;dsimp only
 split <;>simp
end Go.Proofs.YtpekidjfbinekaaGreatDoor
