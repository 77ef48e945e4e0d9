/- J6, J7 -/
import Derived.Test.YtpekidjfbinekaaGreatDoorA25
import Derived.Test.YtpekidjfbinekaaGreatDoorA36
set_option maxRecDepth 100000
set_option maxHeartbeats 60000000
set_option linter.all false
namespace Go.Proofs.YtpekidjfbinekaaGreatDoor
open Go.RowKit Uni
theorem Fr.set12 {M:Nat->Prop}{a w:World}(h:Fr M a w){b:Nat}(hb:M b\/a.heap.size<=b)(v0 v1 v2 v3 v4 v5 v6 v7 v8 v9 v10 v11:Value):
 Fr M a ((((((((((((w.setCell ⟨b,0,none⟩ v0).setCell ⟨b,1,none⟩ v1).setCell ⟨b,2,none⟩ v2).setCell ⟨b,3,none⟩ v3).setCell ⟨b,4,none⟩ v4).setCell ⟨b,5,none⟩ v5).setCell ⟨b,6,none⟩ v6).setCell ⟨b,7,none⟩ v7).setCell ⟨b,8,none⟩ v8).setCell ⟨b,9,none⟩ v9).setCell ⟨b,10,none⟩ v10).setCell ⟨b,11,none⟩ v11):=
 ((((((h.set6 hb v0 v1 v2 v3 v4 v5).setCell hb v6).setCell hb v7).setCell hb v8).setCell hb v9).setCell hb v10).setCell hb v11
theorem heap_set12 {w:World}{b:Nat}{u0 u1 u2 u3 u4 u5 u6 u7 u8 u9 u10 u11:Value}{t:TypeId}{fr:Nat × Nat}(h:w.heap[b]?=some (.cells #[u0,u1,u2,u3,u4,u5,u6,u7,u8,u9,u10,u11] t fr))(v0 v1 v2 v3 v4 v5 v6 v7 v8 v9 v10 v11:Value):
 ((((((((((((w.setCell ⟨b,0,none⟩ v0).setCell ⟨b,1,none⟩ v1).setCell ⟨b,2,none⟩ v2).setCell ⟨b,3,none⟩ v3).setCell ⟨b,4,none⟩ v4).setCell ⟨b,5,none⟩ v5).setCell ⟨b,6,none⟩ v6).setCell ⟨b,7,none⟩ v7).setCell ⟨b,8,none⟩ v8).setCell ⟨b,9,none⟩ v9).setCell ⟨b,10,none⟩ v10).setCell ⟨b,11,none⟩ v11).heap[b]?=
   some (.cells #[v0,v1,v2,v3,v4,v5,v6,v7,v8,v9,v10,v11] t fr):=by
 have h0:=heap_setCell (a:=⟨b,0,none⟩) (v:=v0) h rfl;have h1:=heap_setCell (a:=⟨b,1,none⟩) (v:=v1) h0 rfl;have h2:=heap_setCell (a:=⟨b,2,none⟩) (v:=v2) h1 rfl;have h3:=heap_setCell (a:=⟨b,3,none⟩) (v:=v3) h2 rfl;have h4:=heap_setCell (a:=⟨b,4,none⟩) (v:=v4) h3 rfl;have h5:=heap_setCell (a:=⟨b,5,none⟩) (v:=v5) h4 rfl;have h6:=heap_setCell (a:=⟨b,6,none⟩) (v:=v6) h5 rfl;have h7:=heap_setCell (a:=⟨b,7,none⟩) (v:=v7) h6 rfl
 have h8:=heap_setCell (a:=⟨b,8,none⟩) (v:=v8) h7 rfl;have h9:=heap_setCell (a:=⟨b,9,none⟩) (v:=v9) h8 rfl;have h10:=heap_setCell (a:=⟨b,10,none⟩) (v:=v10) h9 rfl;have h11:=heap_setCell (a:=⟨b,11,none⟩) (v:=v11) h10 rfl;simpa using h11
def arr12 (x y:TyV):Array Value:= #[.int .i64 x.k,.int .i64 x.n,.int .i64 x.c,.bool x.v,.slice x.a x.len x.cap,.string x.nm,.int .i64 y.k,.int .i64 y.n,.int .i64 y.c,.bool y.v,.slice y.a y.len y.cap,.string y.nm]
theorem wpList_store12 {ops:Array Oper}{rest:List Oper}{o:Oper}{a:Act}{w:World}{Q:Exit->Act->World->Prop}(hgd:o.guard=none)(x v:Operand)(ho:o.op= .store 64 x v)(hd:o.dst=none)(b:Nat)(p q:TyV){u0 u1 u2 u3 u4 u5 u6 u7 u8 u9 u10 u11:Value}
 (hx:a.eval x= .pointer (some ⟨b,0,none⟩)) (hv:a.eval v= .agg (arr12 p q))
 (hb:w.heap[b]?=some (.cells #[u0,u1,u2,u3,u4,u5,u6,u7,u8,u9,u10,u11] 64 (0,0)))
 (h: ∀W,W.heap[b]?=some (.cells (arr12 p q) 64 (0,0))->Fr (fun c=>c=b) w W->wpList Tryz.prog ops Q rest a W):wpList Tryz.prog ops Q (o::rest) a w:=by
 have H:=h _ (heap_set12 hb (.int .i64 p.k) (.int .i64 p.n) (.int .i64 p.c) (.bool p.v) (.slice p.a p.len p.cap) (.string p.nm) (.int .i64 q.k) (.int .i64 q.n) (.int .i64 q.c) (.bool q.v) (.slice q.a q.len q.cap) (.string q.nm)) ((Fr.refl (fun c=>c=b) w).set12 (b:=b) (.inl rfl) _ _ _ _ _ _ _ _ _ _ _ _);have q0:w.cell? ⟨b,0,none⟩=some u0:=zA hb 0;have q1:w.cell? ⟨b,1,none⟩=some u1:=zA hb 1;have q2:w.cell? ⟨b,2,none⟩=some u2:=zA hb 2
 have q3:w.cell? ⟨b,3,none⟩=some u3:=zA hb 3;have q4:w.cell? ⟨b,4,none⟩=some u4:=zA hb 4;have q5:w.cell? ⟨b,5,none⟩=some u5:=zA hb 5;have q6:w.cell? ⟨b,6,none⟩=some u6:=zA hb 6;have q7:w.cell? ⟨b,7,none⟩=some u7:=zA hb 7;have q8:w.cell? ⟨b,8,none⟩=some u8:=zA hb 8;have q9:w.cell? ⟨b,9,none⟩=some u9:=zA hb 9;have q10:w.cell? ⟨b,10,none⟩=some u10:=zA hb 10;have q11:w.cell? ⟨b,11,none⟩=some u11:=zA hb 11
 have f:=fun i=>zC hb i
 unfold arr12 at hv;refine wpList_plain hgd fun K hK=> ?_
 have H':=hK _ _ H;clear H h hb hK;obtain ⟨dst,op,type,pos,after,guard⟩:=o;dsimp only at ho hd hgd;subst ho hd hgd;unfold Oper.wp execOp;simp only [hx,hv];simp [go_sem,q0,q1,q2,q3,q4,q5,q6,q7,q8,q9,q10,q11,f];exact H'
theorem under108b:Tryz.prog.underlying 108=some (.slice 109):=by kernel_rfl
theorem info109b:(Tryz.prog.info? 109).map (fun i=>(i.zero,i.size,i.bytes))=some (some (.agg #[.nilIface,.nilIface]),2,32):=by kernel_rfl
def flat2 (vs:List (Value × Value)):List Value:=vs.flatMap fun v=> [v.1,v.2]
theorem flat2_get: ∀(vs:List (Value × Value))(i j:Nat)(v:Value × Value),vs[i]?=some v->j < 2->(flat2 vs)[i * 2 + j]?= [v.1,v.2][j]?:=by
 intro vs;unfold flat2
 induction vs with
 |nil=>intro i j v h;simp at h
 |cons u vs ih=>
  intro i j v h hj;rw [List.flatMap_cons]
  cases i with
  |zero=>
   simp at h;subst h;rw [List.getElem?_append_left (by simp;omega)];simp
  |succ i=>
   rw [List.getElem?_append_right (by simp;omega)];rw [<-ih i j v (by simpa using h) hj]
   congr 1
   simp;omega
theorem own_pairs2 {w:World}{B:Nat}{v:Value}{n:Nat}{vs:List (Value × Value)}(h:w.ownsRow B 109 2 v n (flat2 vs))(hl:vs.length=n): ∃a c,v= .slice a n c/\Pairs2 w a vs:=by
 have hc:=h;obtain ⟨_,h | ⟨g,cap,cur,hv,hB,hg,hn,hm,hs,ht⟩⟩:=h
 ·obtain ⟨hv,hn⟩:=h
  subst hn;have:vs= []:=List.eq_nil_of_length_eq_zero hl;subst this;exact ⟨none,0,hv,.inl rfl⟩
 ·refine ⟨_,cap,hv,.inr ⟨g,0,rfl,fun i p hp=> ?_⟩⟩
  have cell: ∀j,j < 2→w.cell? ⟨g,0 + i * 2 + j,none⟩= [p.1,p.2][j]?:=by
   intro j hj;have h1:=flat2_get vs i j p hp hj;have h2:=World.ownsRow.cells hc (g:=g) (by rw [hv];rfl) (i * 2 + j);have hadd:(⟨g,0,none⟩:Addr).add (i * 2 + j)=⟨g,0 + i * 2 + j,none⟩:=by unfold Addr.add;split <;>simp_all
   rw [hadd] at h2;rw [h1] at h2;have h3:([p.1,p.2][j]?).isSome:=by simp;omega
   obtain ⟨u,hu⟩:=Option.isSome_iff_exists.1 h3;rw [hu];exact h2 u hu
  exact ⟨cell 0 (by omega),cell 1 (by omega)⟩
theorem own_none {t:Tm}(h:Holes 3 0 t)(l:List Tm):t.own l=t:=by
 induction h with
 |var p=>rw [Tm.own_var]
 |node f ts h _ ih=>
  rw [Tm.own_node,if_neg (fun h3=>absurd (h h3.symm) (Nat.not_lt_zero _))]
  congr 1
  exact (List.map_congr_left fun a ha=>ih a ha).trans (List.map_id' ts)
structure TIn (w:World) (nd:Nat) (ar:Nat→Nat) (n:Nat) (x:TyV) (t:Tm):Prop where
 r:RT w F0 x t
 g:Uni.Good nd ar t
 h2:Holes 2 n t
 h3:Holes 3 0 t
theorem TIn.keep {w w':World}{nd:Nat}{ar:Nat->Nat}{n:Nat}{x:TyV}{t:Tm}(h:TIn w nd ar n x t)(f:Fr F0 w w'):TIn w' nd ar n x t:=⟨h.r.keep f,h.g,h.h2,h.h3⟩
structure PvRow (w:World) (E:GEnv) (B:Nat) (o:Value) (j:Nat) (vs:List (Value × Value)) (qs:List (Tm × Tm)):Prop where
 len:vs.length=j
 own:w.ownsRow B 109 2 o j (flat2 vs)
 pt: ∀(i:Nat) (v:Value × Value) (q:Tm × Tm),vs[i]?=some v->qs[i]?=some q->PT w (E.setA fun b=>E.A b\/o.ownBlock=some b) v.1 q.1/\PT w (E.setA fun b=>E.A b\/o.ownBlock=some b) v.2 q.2
theorem PvRow.start (w:World)(E:GEnv)(B:Nat)(qs:List (Tm × Tm)):PvRow w E B (.slice none 0 0) 0 [] qs:=⟨rfl,World.ownsRow_nil _ _ _ _,fun i v q h=>by simp at h⟩
theorem PvRow.next {w w2 w3:World}{E:GEnv}{B:Nat}{o:Value}{j g cap:Nat}{vs:List (Value × Value)}{qs:List (Tm × Tm)}(h:PvRow w E B o j vs qs)(f:Fr F0 w w2){v1 v2:Value}{q:Tm × Tm}(hq:qs[j]?=some q)
 (h1:PT w2 (E.setA fun b=>E.A b\/o.ownBlock=some b) v1 q.1) (h2:PT w2 (E.setA fun b=>E.A b\/o.ownBlock=some b) v2 q.2) (fg:Fr (fun b=>o.ownBlock=some b) w2 w3) (hown:w3.ownsRow B 109 2 (.slice (some ⟨g,0,none⟩) (j + 1) cap) (j + 1) (flat2 vs ++ [v1,v2])) (hg:o.ownBlock=some g\/w2.heap.size<=g):
 PvRow w3 E B (.slice (some ⟨g,0,none⟩) (j + 1) cap) (j + 1) (vs ++ [(v1,v2)]) qs:=by
 have tr: ∀ {v:Value} {t:Tm},PT w2 (E.setA fun b=>E.A b∨o.ownBlock=some b) v t→PT w3 (E.setA fun b=>E.A b∨(Value.slice (some ⟨g,0,none⟩) (j + 1) cap).ownBlock=some b) v t:=by
  intro v t h
  have h1:PT w2 (E.setA (fun b=>(E.A b∨o.ownBlock=some b)∨b=g)) v t:=PT.avoid (E:=E.setA fun b=>E.A b∨o.ownBlock=some b) (fun b hb=>by
   rcases hb with hb | hb
   ·exact .inl hb
   ·subst hb
    rcases hg with h | h
    ·exact .inl (.inr h)
    ·exact .inr h) h
  have h2:=h1.keep (w':=w3) (fg.mono fun b _ hb=> .inl (.inr hb))
  exact PT.avoid (E:=E.setA (fun b=>(E.A b∨o.ownBlock=some b)∨b=g)) (fun b hb=>by
   rcases hb with hb | hb
   ·exact .inl (.inl (.inl hb))
   ·exact .inl (.inr (Option.some.inj hb).symm)) h2
 refine ⟨by simp [h.len],by simpa [flat2] using hown,fun i v q' hi hqi=> ?_⟩;by_cases hij:i < j
 ·rw [List.getElem?_append_left (by rw [h.len];exact hij)] at hi
  obtain ⟨h3,h4⟩:=h.pt i v q' hi hqi;exact ⟨tr (h3.keep f.sub),tr (h4.keep f.sub)⟩
 ·have hij:i=j:=by
   have:=(List.getElem?_eq_some_iff.1 hi).1;simp [h.len] at this;omega
  subst hij;rw [List.getElem?_append_right (by rw [h.len];exact Nat.le_refl _),h.len,Nat.sub_self] at hi;cases hi
  rw [hq] at hqi;cases hqi
  exact ⟨tr h1,tr h2⟩
def InfOf (w:World)(a:Option Addr)(ls:List (Bool × TyV))(os:List (Option Tm)):Prop:=
 InfsAt w a ls/\ ∀(i:Nat) (p:Bool × TyV) (o:Option Tm),ls[i]?=some p->os[i]?=some o->p.1=o.isSome/\ ∀t,o=some t->RT w F0 p.2 t
theorem InfOf.keep {w w':World}{a:Option Addr}{ls:List (Bool × TyV)}{os:List (Option Tm)}(h:InfOf w a ls os)(f:Fr F0 w w'):InfOf w' a ls os:=
 ⟨h.1.imp_right fun ⟨b,off,h1,h2⟩=>⟨b,off,h1,fun i p hp=>(h2 i p hp).keep f id⟩,fun i p o h1 h2=>by obtain ⟨h3,h4⟩:=h.2 i p o h1 h2;exact ⟨h3,fun t ht=>(h4 t ht).keep f⟩⟩
theorem under34b:Tryz.prog.underlying 34=some (.slice 45):=by kernel_rfl
def wE (p:Bool × TyV):List Value:= [.bool p.1,.int .i64 p.2.k,.int .i64 p.2.n,.int .i64 p.2.c,.bool p.2.v,.slice p.2.a p.2.len p.2.cap,.string p.2.nm]
theorem flat7_get: ∀(rs:List (Bool × TyV))(i j:Nat)(y:Bool × TyV),rs[i]?=some y->j < 7->(rs.flatMap wE)[i * 7 + j]?=(wE y)[j]?:=by
 intro rs
 induction rs with
 |nil=>intro i j y h;simp at h
 |cons r rs ih=>
  intro i j y h hj;rw [List.flatMap_cons]
  cases i with
  |zero=>
   simp at h;subst h;rw [List.getElem?_append_left (by simp [wE];omega)];simp
  |succ i=>
   rw [List.getElem?_append_right (by simp [wE];omega)];rw [<-ih i j y (by simpa using h) hj]
   congr 1
   simp [wE];omega
structure IRow (w:World) (B:Nat) (o:Value) (j:Nat) (ls:List (Bool × TyV)) (os:List (Option Tm)):Prop where
 len:ls.length=j
 own:w.ownsRow B 45 7 o j (ls.flatMap wE)
 ok: ∀(i:Nat) (p:Bool × TyV) (x:Option Tm),ls[i]?=some p->os[i]?=some x->p.1=x.isSome/\ ∀t,x=some t->RT w (fun b=>o.ownBlock=some b) p.2 t
theorem IRow.start (w:World)(B:Nat)(os:List (Option Tm)):IRow w B (.slice none 0 0) 0 [] os:=⟨rfl,World.ownsRow_nil _ _ _ _,fun i p x h=>by simp at h⟩
theorem IRow.next {w w2 w3:World}{B:Nat}{o:Value}{j g cap:Nat}{ls:List (Bool × TyV)}{os:List (Option Tm)}(h:IRow w B o j ls os)(f:Fr F0 w w2){p:Bool × TyV}{x:Option Tm}(hx:os[j]?=some x)(hp:p.1=x.isSome/\ ∀t,x=some t->RT w2 (fun b=>o.ownBlock=some b) p.2 t)
 (fg:Fr (fun b=>o.ownBlock=some b) w2 w3) (hown:w3.ownsRow B 45 7 (.slice (some ⟨g,0,none⟩) (j + 1) cap) (j + 1) (ls.flatMap wE ++ wE p)) (hg:o.ownBlock=some g\/w2.heap.size<=g):IRow w3 B (.slice (some ⟨g,0,none⟩) (j + 1) cap) (j + 1) (ls ++ [p]) os:=by
 have tr: ∀ {r:TyV} {t:Tm},RT w2 (fun b=>o.ownBlock=some b) r t→RT w3 (fun b=>(Value.slice (some ⟨g,0,none⟩) (j + 1) cap).ownBlock=some b) r t:=by
  intro r t h
  have h1:RT w2 (fun b=>o.ownBlock=some b∨b=g) r t:=h.avoid (fun b hb=>by
   rcases hb with hb | hb
   ·exact .inl hb
   ·subst hb;exact hg)
  exact (h1.keep (fg.mono fun b _ hb=> .inl hb)).mono fun b hb=> .inr (Option.some.inj hb).symm
 refine ⟨by simp [h.len],by simpa using hown,fun i q y hi hy=> ?_⟩;by_cases hij:i < j
 ·rw [List.getElem?_append_left (by rw [h.len];exact hij)] at hi
  obtain ⟨h1,h2⟩:=h.ok i q y hi hy;exact ⟨h1,fun t ht=>tr ((h2 t ht).keep f.sub)⟩
 ·have hij:i=j:=by
   have:=(List.getElem?_eq_some_iff.1 hi).1;simp [h.len] at this;omega
  subst hij;rw [List.getElem?_append_right (by rw [h.len];exact Nat.le_refl _),h.len,Nat.sub_self] at hi;cases hi
  rw [hx] at hy;cases hy
  exact ⟨hp.1,fun t ht=>tr (hp.2 t ht)⟩
theorem IRow.fin {w:World}{B:Nat}{o:Value}{j:Nat}{ls:List (Bool × TyV)}{os:List (Option Tm)}(h:IRow w B o j ls os): ∃a c,o= .slice a j c/\InfOf w a ls os/\j<=c:=by
 have hc:=h.own;obtain ⟨_,h1 | ⟨g,cap,cur,hv,hB,hg,hn,hm,hs,ht⟩⟩:=h.own
 ·obtain ⟨hv,hn⟩:=h1
  have:ls= []:=List.eq_nil_of_length_eq_zero (by rw [h.len];exact hn);subst this;exact ⟨none,0,by rw [hv,hn],⟨.inl rfl,fun i p x h=>by simp at h⟩,by omega⟩
 ·refine ⟨_,cap,hv,⟨.inr ⟨g,0,rfl,fun i p hp=> ?_⟩,fun i p x hp hx=> ?_⟩,hn⟩
  ·have cell: ∀j,j < 7→w.cell? ⟨g,0 + i * 7 + j,none⟩=(wE p)[j]?:=by
    intro j hj;have h1:=flat7_get ls i j p hp hj;have h2:=World.ownsRow.cells hc (g:=g) (by rw [hv];rfl) (i * 7 + j);have hadd:(⟨g,0,none⟩:Addr).add (i * 7 + j)=⟨g,0 + i * 7 + j,none⟩:=by unfold Addr.add;split <;>simp_all
    rw [hadd] at h2;rw [h1] at h2;have h3:((wE p)[j]?).isSome:=by simp [wE];omega
    obtain ⟨u,hu⟩:=Option.isSome_iff_exists.1 h3;rw [hu];exact h2 u hu
   exact ⟨cell 0 (by omega),cell 1 (by omega),cell 2 (by omega),cell 3 (by omega),cell 4 (by omega),cell 5 (by omega),cell 6 (by omega)⟩
  ·obtain ⟨h1,h2⟩:=h.ok i p x hp hx
   exact ⟨h1,fun t ht=>(h2 t ht).mono fun b hb=>hb.elim⟩
def U37Post (w:World)(E:GEnv)(m:Uni.Mode)(qs:List (Tm × Tm))(e:Ending)(w':World):Prop:=
 ∃(a:Option Addr) (c:Nat) (ls:List (Bool × TyV)) (oks:List Bool) (s':St),e= .returned (.tuple #[.slice a E.n c,.bool (decide (oks.length=qs.length) && oks.getLastD false)])∧Fr F0 w w'∧PairsR E.D m St.init qs oks s'∧
  ls.length=E.n/\InfOf w' a ls ((List.range E.n).map fun p=>s'.v (s'.j p))/\E.n<=c
theorem modeOf_any (m:Uni.Mode)(w:World):Calls Tryz.prog 63 #[.int .i64 (zU m)] w fun e w'=>(∃z,e= .returned (.int .i64 z)/\yR m z)/\w'=w:=by
 cases m
 all_goals
  unfold zU;go_enter Tryz.func63,Tryz.ntmps63;go_wp2;go_ret
 ·exact ⟨⟨2,rfl,by simp [yR]⟩,rfl⟩
 ·exact ⟨⟨1,rfl,by simp [yR]⟩,rfl⟩
 ·exact ⟨⟨0,rfl,by simp [yR]⟩,rfl⟩
theorem unify37_any {E:GEnv}{bb:Nat}{da:Option Addr}{dl dc:Nat}{ar:Nat->Nat}(w:World)(hB:BEnv w E bb da dl dc ar)(hA:E.A=F0)(hnd:E.nd<=dl)(hG: ∀i,i < dl->Uni.Good i ar (E.D i))(hK: ∀i,i < dl-> ∃f bs,E.D i= .node f bs/\(f.kind=0\/4<=f.kind))(hD:zZ E.D)
 (m:Uni.Mode) (pa:Option Addr) (L pc:Nat) (ps:List (TyV × TyV)) (qs:List (Tm × Tm)) (hpa:PairsAt w pa ps) (hpl:ps.length=L) (hql:qs.length=L) (hL0:0 < L) (hL2:L<=2)
 (hin: ∀(i:Nat) (p:TyV × TyV) (q:Tm × Tm),ps[i]?=some p->qs[i]?=some q->TIn w E.nd ar E.n p.1 q.1/\TIn w E.nd ar E.n p.2 q.2) (hok:PairsOk E.D m St.init qs):
 Calls Tryz.prog 37 #[.pointer (some ⟨bb,0,none⟩),.slice pa L pc,.int .i64 (zU m)] w (U37Post w E m qs):=by
 obtain ⟨i0,hi0,hz0,hz1,hz2⟩:=info_parts info109b;obtain ⟨i1,hi1,hy0,hy1,hy2⟩:=info_parts info45;have HB:=hid hB;have HA:=hid hA;have ND:=hid hnd;have HG:=hid hG;have HK:=hid hK;have HD:=hid hD;have PA:=hid hpa;have PL:=hid hpl;have QL:=hid hql;have IN:=hid hin;have OKS:=hid hok;clear hB hA hnd hG hK hD hpa hpl hql hin hok;go_enter Tryz.func37,Tryz.ntmps37;go_wp2_with fail
 go_loopw [8,10,18] (fun o _ i wr=> ∃(j:Nat) (vs:List (Value × Value)),j<=L/\i= .int .i64 j/\Fr F0 w wr/\PvRow wr E w.heap.size o j vs qs) (fun _ _ i _=>L - (intOf i).toNat)
 case atStart=>exact ⟨0,[],Nat.zero_le _,rfl,Fr.refl _ _,PvRow.start _ _ _ _⟩
 case round=>
  obtain ⟨WX,rfl⟩: ∃WX:World,WX=wr:=⟨wr,rfl⟩;obtain ⟨ow,rfl⟩: ∃ow:Value,ow=u8:=⟨_,rfl⟩;obtain ⟨j,vs,hj,rfl,hF,hR⟩:=hrel;have FX:=hid hF;have RX:=hid hR;clear hF hR;by_cases hlt:j < L
  ·have hle:(j:Int) < L:=by omega
   obtain ⟨p,hp⟩: ∃p,ps[j]?=some p:=⟨ps[j]'(by rw [PL.out];exact hlt),by simp⟩;obtain ⟨q,hq⟩: ∃q,qs[j]?=some q:=⟨qs[j]'(by rw [QL.out];exact hlt),by simp⟩;obtain ⟨b,off,rfl,hcc⟩:=PA.out.resolve_left (fun h=>by have:=PL.out;rw [h] at this;simp at this;omega);obtain ⟨hx,hy⟩:=IN.out j p q hp hq;have HX:=hid hx;have HY:=hid hy;have HQ:=hid hq;have P12:=hid (hcc j p hp);have P1:=(hcc j p hp).keep FX.out id
   obtain ⟨a0,a1,a2,a3,a4,a5,b0,b1,b2,b3,b4,b5⟩:=P1;have hb1:b < WX.heap.size:=World.block_lt_of_cell? _ _ a0;clear hp hq hcc hx hy P12;go_wp2_with (refine wpList_store12 rfl _ _ rfl rfl WX.heap.size p.1 p.2 rfl rfl (heap_alloc_new WX _) ?_)
   intro W1 hW hf;have F1:=hid (((Fr.refl F0 WX).alloc _).transNew hf (fun x hx=> .inr (by omega)));unfold arr12 at hW;have HW:=hid hW;clear hW hf a0 a1 a2 a3 a4 a5 b0 b1 b2 b3 b4 b5 hb1;go_wp2_with fail
   have nX: ¬ow.ownBlock=some WX.heap.size:=fun h=>by have h1:=(World.ownsRow.lt RX.out.own _ h).2;omega
   have NX:=hid nX;clear nX;refine zG (Fr (fun b=>ow.ownBlock=some b) W1) [(0,true),(1,true),(2,true),(3,true),(5,true),(6,true),(7,true),(4,false),(8,false),(9,false),(10,false),(11,false),(12,false)] [12] yE (by kernel_rfl) (by kernel_rfl) (by kernel_rfl) (by decide) ?_
   iterate 7
    (refine zH _ rfl (Fr.refl _ _).drew (fun w' hS=>by
     have q0:=zA (hS.heap NX.out HW.out);have s0:=zF (hS.heap NX.out HW.out);clear hS;go_simp;rfl) ?_)
   go_simp;refine zB rfl ?_;have F0D:=hid ((Fr.refl F0 W1).drew);have FW1:=hid (FX.out.trans F1.out)
   have AB: ∀b,(E.A b∨ow.ownBlock=some b)→(E.A b∨w.heap.size≤b)∧b < W1.drew.heap.size:=fun b hb=>by
    rcases hb with hb | hb
    ·rw [HA.out] at hb;exact hb.elim
    ·have h1:=World.ownsRow.lt RX.out.own b hb;have h2:=F1.out.size;exact ⟨.inr h1.1,by show b < W1.heap.size;omega⟩
   have HBX:=hid (HB.out.avoid (w':=W1.drew) (A:=fun b=>E.A b\/ow.ownBlock=some b) (FW1.out.trans F0D.out) (fun b hb=>(AB b hb).1) (fun b hb=>(AB b hb).2));clear AB;have NIL:=fun (w:World)=>(⟨rfl,rfl,.inl rfl,fun i v t h=>(by simp at h),⟨Nat.le_refl _,Nat.zero_le _⟩,fun _=>⟨rfl,rfl⟩⟩:TysAt w (E.setA fun b=>E.A b\/ow.ownBlock=some b) none 0 0 [] [])
   have TY:=hid (fun (w':World) (y:TyV) (t:Tm) (f':Fr F0 W1.drew w') (hy:TIn w' E.nd ar E.n y t)=>typ60_any (E:=E) ND.out HG.out HK.out E.nd (Nat.le_refl _) t (fun b=>E.A b\/ow.ownBlock=some b) w' y none 0 0 [] [] hy.g hy.h2 hy.h3 (HBX.out.keep f') hy.r (NIL w'));clear NIL;go_wp2_with fail
   refine (TY.out _ p.1 q.1 (Fr.refl _ _) (HX.out.keep (FW1.out.trans F0D.out))).mono ?_;rintro e w2 ⟨ty,pv,rfl,hp2,hf2⟩;rw [own_none HX.out.h3] at hp2;have PX:=hid hp2;have F2:=hid hf2;clear hp2 hf2;go_wp2;refine And.intro (fun _=>(F0D.out.trans F2.out).sub) ?_;refine zB rfl ?_;go_wp2_with fail
   refine (TY.out _ p.2 q.2 F2.out (HY.out.keep (FW1.out.trans (F0D.out.trans F2.out)))).mono ?_;rintro e w3 ⟨ty2,pv2,rfl,hp3,hf3⟩;rw [own_none HY.out.h3] at hp3;have PY:=hid hp3;have F3:=hid (F2.out.trans hf3);have PX3:=hid (PX.out.keep hf3.sub);have FX3:=hid (F1.out.trans (F0D.out.trans F3.out));clear hp3 hf3 TY;go_wp2;refine And.intro (fun _=>(F0D.out.trans F3.out).sub) ?_;refine zB rfl ?_;go_wp2
   refine And.intro (fun _=>(F0D.out.trans F3.out).sub) ?_;refine zB rfl ?_;go_wp2;refine And.intro (fun _=>((F0D.out.trans F3.out).sub).alloc _) ?_;refine zB rfl ?_;have OA:=hid ((zV RX.out.own FX3.out (fun _ _ h=>h)).alloc (.cells #[.iface ty pv,.iface ty2 pv2] 109));have N63:=hid (show j + 1<=maxLen by unfold maxLen;omega);have N72:=hid (show (j + 1) * 32<=140737488355328 by omega);have SZ2:=hid (show w.heap.size<=(w3.alloc (.cells #[.iface ty pv,.iface ty2 pv2] 109)).heap.size by have h1:=(FX.out.trans FX3.out).size;simp;omega)
   refine wpList_append_lies _ rfl _ _ 108 rfl w.heap.size 109 i0 _ 2 32 under108b hi0 hz0 hz1 hz2 rfl (by omega) ow j (flat2 vs) (by rfl) OA.out ⟨w3.heap.size,0,none⟩ 1 1 [.iface ty pv,.iface ty2 pv2] (by rfl) (by rfl) (World.news_of_block (cs:= #[.iface ty pv,.iface ty2 pv2]) (t:=109) (fr:=(0,0)) (heap_alloc_new w3 _)) (by simp [Value.oneCell']) (by omega) N63.out N72.out SZ2.out (w3.heap.size + 1) (by simp) ?_
   intro g cap w4 hown4 hgrow hg1 hg2;have F34:Fr (fun b=>ow.ownBlock=some b) w3 w4:=(Fr.alloc (Fr.refl _ w3) _).trans (Fr.of_grown hgrow);have FS4:=hid ((F0D.out.trans F3.out).sub.trans F34);have F4:=hid ((FX.out.trans FX3.out).transNew F34 (fun b hb=> .inr (World.ownsRow.lt RX.out.own b hb).1));have NEXT:=hid (PvRow.next RX.out FX3.out HQ.out PX3.out PY.out F34 hown4 (by rcases hg1 with h | h;exact .inl h;exact .inr (by omega)))
   clear F34 hown4 hgrow hg1 hg2;go_wp2;refine And.intro (fun _=>FS4.out) ?_;refine zB rfl ?_;go_wp2;refine And.intro (fun h=>absurd h (by decide)) ?_;refine zO (NoPanic.normal ?_);go_wp2;go_roundw
   case rel=>exact ⟨j + 1,_,by omega,by go_num,F4.out,NEXT.out⟩
   case measure=>simp [intOf];omega
  ·have hjn:j=L:=by omega
   subst hjn;have hle: ¬(j:Int) < j:=by omega
   obtain ⟨la,lc,rfl,hp2⟩:=own_pairs2 RX.out.own RX.out.len;have P2:=hid hp2;clear hp2;obtain ⟨na,nc,ta,tc,hbb,_,htp⟩:=(HB.out.keep FX.out).b;have BB:=hid hbb;have TP:=hid htp;clear hbb htp;go_wp2_with fail
   refine zG (Fr F0 WX) [(0,true),(1,true),(2,true),(3,true),(4,true),(5,true),(6,false),(7,false),(8,false),(9,true),(10,true),(11,false),(12,false)] [12] yE (by kernel_rfl) (by kernel_rfl) (by kernel_rfl) (by decide) ?_
   iterate 6
    (refine zH _ rfl (Fr.refl _ _).drew (fun w' hS=>by
     have q0:=zA (hS.heap id BB.out);have s0:=zF (hS.heap id BB.out);clear hS;go_simp;rfl) ?_)
   go_simp;have F0D:=hid ((Fr.refl F0 WX).drew);refine zB rfl ?_;go_wp2_with fail
   refine (modeOf_any m _).mono ?_;rintro e w1 ⟨⟨z,rfl,hz⟩,rfl⟩;have HZ:=hid hz;clear hz;go_wp2;refine And.intro (fun _=>F0D.out) ?_;refine zB rfl ?_;go_wp2_with fail
   have hA0: ∀b,¬E.A b:=fun b hb=>by rw [HA.out] at hb;exact hb
   refine (unify62_any (E:=E) HD.out hA0 m z HZ.out WX.drew (HB.out.keep (FX.out.trans F0D.out)).env ta tc TP.out HB.out.n8 la j lc vs qs P2.out RX.out.len QL.out (by omega) (fun i v q h1 h2=>by
    obtain ⟨h3,h4⟩:=RX.out.pt i v q h1 h2;exact ⟨(PT.avoid (E:=E.setA fun b=>E.A b\/(Value.slice la j lc).ownBlock=some b) (A:=E.A) (fun b hb=> .inl (.inl hb)) h3).keep F0D.out.sub,(PT.avoid (E:=E.setA fun b=>E.A b\/(Value.slice la j lc).ownBlock=some b) (A:=E.A) (fun b hb=> .inl (.inl hb)) h4).keep F0D.out.sub⟩) OKS.out).mono ?_
   rintro e w2 ⟨ov,oks,s',rb,c,rfl,hf2,ho2,hR2,hc1,hc2,hrb,hc3,he2,hlt2⟩;have F2:=hid (F0D.out.trans hf2);have O2:=hid ho2;have PR:=hid hR2;have CB:=hid hc1;have CS:=hid hc2;have CV:=hid hc3;have E2:=hid he2;clear hf2 ho2 hR2 hc1 hc2 hrb hc3 he2 hlt2;go_wp2;refine And.intro (fun _=>F2.out) ?_;refine zB rfl ?_;go_wp2;refine And.intro (fun _=>F2.out) ?_
   iterate 2
    (refine zH _ rfl F2.out (fun w' hS=>by
     clear hS;go_simp;rfl) ?_)
   go_simp;refine zB rfl ?_;go_wp2;refine And.intro (fun _=>F2.out) ?_;refine zB rfl ?_;go_wp2;refine And.intro (fun h=>absurd h (by decide)) ?_;refine zO (NoPanic.normal ?_);have AB2:=hid (show ∀b,newA WX.drew.heap.size E.n b->(E.A b\/WX.heap.size<=b)/\b < w2.heap.size from fun b hb=>⟨.inr hb.1,E2.out.below b hb⟩);have HB2:=hid ((HB.out.keep FX.out).avoid (w':=w2) (A:=newA WX.drew.heap.size E.n) F2.out (fun b hb=>(AB2.out b hb).1) (fun b hb=>(AB2.out b hb).2))
   have FW2:=hid (FX.out.trans F2.out);have hj2:j<=2:=hL2;obtain ⟨n,hn⟩: ∃n,n=E.n:=⟨_,rfl⟩;have NN:=hid hn;have hn8:n<=8:=by rw [hn];exact HB.out.n8
   rw [<-hn];clear hn;go_wp2_with fail
   go_loopw [13,15,48] (fun o _ i wr=> ∃(k:Nat) (ls:List (Bool × TyV)),k<=n/\i= .int .i64 k/\Fr F0 w2 wr/\IRow wr w2.heap.size o k ls ((List.range n).map fun p=>s'.v (s'.j p))) (fun _ _ i _=>n - (intOf i).toNat)
   case atStart=>exact ⟨0,[],Nat.zero_le _,rfl,Fr.refl _ _,IRow.start _ _ _⟩
   case round=>
    obtain ⟨WY,rfl⟩: ∃WY:World,WY=wr:=⟨wr,rfl⟩;obtain ⟨ow,rfl⟩: ∃ow:Value,ow=u13:=⟨_,rfl⟩;obtain ⟨k,ls,hk,rfl,hF,hI⟩:=hrel;have FY:=hid hF;have IY:=hid hI;clear hF hI;by_cases hlt2:k < n
    ·have hle2:(k:Int) < n:=by omega
     obtain ⟨v,hv,hhv⟩:=CV.out k (by have:=NN.out;omega);have hcell:=FY.out.cell id ((zA CB.out k).trans hv);have scell:=World.block_lt_of_cell? _ _ hcell;dsimp only at scell;have hx:((List.range n).map fun p=>s'.v (s'.j p))[k]?=some (s'.v (s'.j k)):=by simp [hlt2]
     have HXk:=hid hx;have N63:=hid (show k + 1<=maxLen by unfold maxLen;omega);have N72:=hid (show (k + 1) * 80<=140737488355328 by omega);clear hx hv
     cases hsv:s'.v (s'.j k) with
     |none=>
      rw [hsv] at hhv;have hv0:v= .nilIface:=hhv;subst hv0;have SV:=hid hsv;have OA:=hid (IY.out.own.alloc (.cells #[.bool false,.int .i64 0,.int .i64 0,.int .i64 0,.bool false,.slice none 0 0,.string ⟨#[]⟩] 45));have SZ2:=hid (show w2.heap.size<=(WY.alloc (.cells #[.bool false,.int .i64 0,.int .i64 0,.int .i64 0,.bool false,.slice none 0 0,.string ⟨#[]⟩] 45)).heap.size by have h1:=FY.out.size;simp;omega)
      have hNN:=nil_nil;clear hhv hsv;go_wp2_with (refine wpList_append_lies _ rfl _ _ 34 rfl w2.heap.size 45 i1 _ 7 80 under34b hi1 hy0 hy1 hy2 rfl (by omega) ow k (ls.flatMap wE) (by rfl) OA.out ⟨WY.heap.size,0,none⟩ 1 1 (wE (false,⟨0,0,0,false,none,0,0,⟨#[]⟩⟩)) (by rfl) (by rfl) (World.news_of_block (cs:= #[.bool false,.int .i64 0,.int .i64 0,.int .i64 0,.bool false,.slice none 0 0,.string ⟨#[]⟩]) (t:=45) (fr:=(0,0)) (heap_alloc_new WY _)) (by simp [wE,Value.oneCell']) (by omega) N63.out N72.out SZ2.out (WY.heap.size + 1) (by simp) ?_)
      intro g cap w4 hown4 hgrow hg1 hg2;have F34:Fr (fun b=>ow.ownBlock=some b) WY w4:=(Fr.alloc (Fr.refl _ WY) _).trans (Fr.of_grown hgrow);have F4:=hid (FY.out.transNew F34 (fun b hb=> .inr (World.ownsRow.lt IY.out.own b hb).1));have NEXT:=hid (IRow.next IY.out (Fr.refl F0 WY) HXk.out (p:=(false,⟨0,0,0,false,none,0,0,⟨#[]⟩⟩)) (by rw [SV.out];exact ⟨rfl,fun t h=>by cases h⟩) F34 hown4 (by rcases hg1 with h | h;exact .inl h;exact .inr (by omega)))
      clear F34 hown4 hgrow hg1 hg2;go_wp2;go_roundw
      case rel=>exact ⟨k + 1,_,by omega,by go_num,F4.out,NEXT.out⟩
      case measure=>simp [intOf];omega
     |some t=>
      rw [hsv] at hhv;have hpt:PT w2 (E.setA (newA WX.drew.heap.size E.n)) v t:=hhv;obtain ⟨ty,pv,rfl⟩:=hpt.iface;have SV:=hid hsv;have PV:=hid hpt;have hNN:=eq_nil;have hbk:=back_any (E:=E.setA (newA WX.drew.heap.size E.n)) (bb:=bb) (da:=da) (dl:=dl) (dc:=dc) (ar:=ar) (by have:=HB.out.d.n16;have:=ND.out;show E.nd<=16;omega) t WY (fun b=>ow.ownBlock=some b) (.iface ty pv) (HB2.out.keep FY.out) (hpt.keep FY.out.sub) (fun b hb=>(World.ownsRow.lt IY.out.own b hb).2)
      have BK:=hid hbk;clear hhv hsv hpt hbk;go_wp2_with fail
      refine BK.out.mono ?_;rintro e w3 ⟨r,rfl,hr,hf3⟩;have R3:=hid hr;have F3:=hid hf3;clear hr hf3 hNN;unfold TyV.val;have OA:=hid ((zV IY.out.own F3.out (fun _ _ h=>h)).alloc (.cells #[.bool true,.int .i64 r.k,.int .i64 r.n,.int .i64 r.c,.bool r.v,.slice r.a r.len r.cap,.string r.nm] 45));have SZ2:=hid (show w2.heap.size<=(w3.alloc (.cells #[.bool true,.int .i64 r.k,.int .i64 r.n,.int .i64 r.c,.bool r.v,.slice r.a r.len r.cap,.string r.nm] 45)).heap.size by have h1:=(FY.out.trans F3.out).size;simp;omega)
      go_wp2_with (refine wpList_append_lies _ rfl _ _ 34 rfl w2.heap.size 45 i1 _ 7 80 under34b hi1 hy0 hy1 hy2 rfl (by omega) ow k (ls.flatMap wE) (by rfl) OA.out ⟨w3.heap.size,0,none⟩ 1 1 (wE (true,r)) (by rfl) (by rfl) (World.news_of_block (cs:= #[.bool true,.int .i64 r.k,.int .i64 r.n,.int .i64 r.c,.bool r.v,.slice r.a r.len r.cap,.string r.nm]) (t:=45) (fr:=(0,0)) (heap_alloc_new w3 _)) (by simp [wE,Value.oneCell']) (by omega) N63.out N72.out SZ2.out (w3.heap.size + 1) (by simp) ?_)
      intro g cap w4 hown4 hgrow hg1 hg2;have F34:Fr (fun b=>ow.ownBlock=some b) w3 w4:=(Fr.alloc (Fr.refl _ w3) _).trans (Fr.of_grown hgrow);have F4:=hid ((FY.out.trans F3.out).transNew F34 (fun b hb=> .inr (World.ownsRow.lt IY.out.own b hb).1));have NEXT:=hid (IRow.next IY.out F3.out HXk.out (p:=(true,r)) (by rw [SV.out];exact ⟨rfl,fun t' h=>by cases h;exact R3.out⟩) F34 hown4 (by rcases hg1 with h | h;exact .inl h;exact .inr (by omega)))
      clear F34 hown4 hgrow hg1 hg2;go_wp2;go_roundw
      case rel=>exact ⟨k + 1,_,by omega,by go_num,F4.out,NEXT.out⟩
      case measure=>simp [intOf];omega
    ·have hkn:k=n:=by omega
     subst hkn;have hle2: ¬(k:Int) < k:=by omega
     obtain ⟨ia,ic,rfl,hinf,hic⟩:=IY.out.fin;have INF:=hid hinf;have ILN:=hid IY.out.len;clear hinf
     have hne:oks≠ []:=fun h=>by
      have hp:=PR.out;have hq:=QL.out;rw [h] at hp;cases hp
      rw [<-hq] at hL0;exact absurd hL0 (Nat.lt_irrefl _)
     obtain ⟨hbl,hbe⟩:=wB O2.out;obtain ⟨g,cap,rfl,_,hcap,_,_,hcells⟩:=hbe.resolve_left (fun h=>hne (by have:=h.1;unfold bools at this;rwa [List.map_eq_nil_iff] at this));have hlo:0 < oks.length:=List.length_pos_iff.2 hne
     have hlast:oks[oks.length - 1]?=some (oks.getLastD false):=by
      rw [<-List.getLast?_eq_getElem?,List.getLastD_eq_getLast?]
      cases h:oks.getLast? with
      |none=>rw [List.getLast?_eq_none_iff] at h;exact absurd h hne
      |some b=>rfl
     have hcl:=FY.out.cell id (hcells (oks.length - 1) (.bool (oks.getLastD false)) (by unfold bools;rw [List.getElem?_map,hlast];rfl));have scl:=World.block_lt_of_cell? _ _ hcl;dsimp only at scl;obtain ⟨lo,hlo2⟩: ∃lo,lo=oks.length:=⟨_,rfl⟩;have LO:=hid hlo2;rw [<-hlo2] at hcl hlo hcap ⊢;have hm1:(lo:Int) - 1=((lo - 1:Nat):Int):=by omega
     have hm2:((lo - 1:Nat):Int) < lo:=by omega
     clear hcells hbe hbl hlast hne hlo2;by_cases hle:lo=j
     ·subst hle
      have h12:lo=1\/lo=2:=by omega
      rcases h12 with rfl | rfl
      all_goals
       clear hm1 hm2;go_wp2_with fail
       go_quiet (fail);go_wp2;go_ret2;refine ⟨ia,ic,ls,oks,s',?_,(FW2.out.trans FY.out).drawn _,PR.out,by rw [ILN.out,NN.out],?_,by rw [<-NN.out];exact hic⟩
       ·show Ending.returned (.tuple #[.slice ia k ic,.bool (oks.getLast?.getD false)])=_
        rw [<-NN.out,QL.out,<-LO.out,List.getLastD_eq_getLast?];simp
       ·rw [←NN.out]
        exact INF.out.keep ((Fr.refl F0 WY).drawn _)
     ·have hd:decide ((lo:Int)=(j:Int))=false:=by simp;omega
      have hd2:decide (lo=j)=false:=by simp;omega
      have hd3:((lo:Int)==(j:Int))=false:=by simp;omega
      have hd4:(lo==j)=false:=by simp;omega
      go_wp2_with fail
      go_quiet (fail);go_wp2;go_ret2;refine ⟨ia,ic,ls,oks,s',?_,(FW2.out.trans FY.out).drawn _,PR.out,by rw [ILN.out,NN.out],?_,by rw [<-NN.out];exact hic⟩
      ·show Ending.returned (.tuple #[.slice ia k ic,.bool false])=_
       rw [<-NN.out,QL.out,<-LO.out,List.getLastD_eq_getLast?];simp [hle]
      ·rw [←NN.out]
       exact INF.out.keep ((Fr.refl F0 WY).drawn _)
end Go.Proofs.YtpekidjfbinekaaGreatDoor
