/- P13 -/
import Derived.Test.YtpekidjfbinekaaGreatDoorA01
set_option maxRecDepth 100000
set_option maxHeartbeats 60000000
set_option linter.all false
section
namespace Uni
section
variable {D:zE}{π:Nat->Nat}{Q:Tm->Prop}
def nums (π:Nat->Nat):Nat->Tm:=fun i=> .var (π i)
structure Eqv (D:zE) (π:Nat->Nat) (Q:Tm->Prop):Prop where
 pi: ∀p,π (π p)=p
 kid: ∀f ts t,Q (.node f ts)->t∈ts->Q t
 und: ∀t,Q t->Q (Uni.und D t)
 com: ∀t,Q t->Uni.und D (t.sub (nums π))=(Uni.und D t).sub (nums π)
structure Ren (π:Nat->Nat) (s s':St):Prop where
 j: ∀p q,s.j p=s.j q↔s'.j (π p)=s'.j (π q)
 v: ∀p,s'.v (s'.j (π p))=(s.v (s.j p)).map (Tm.sub (nums π))
def RenO (π:Nat->Nat)(Q:Tm->Prop):Option (Option St)->Option (Option St)->Prop
 |none,none=>True
 |some none,some none=>True
 |some (some s),some (some s')=>Ren π s s'/\yS Q s
 |_,_=>False
theorem Ren.putAt {s s':St}(h:Ren π s s')(p:Nat)(t:Tm):Ren π (s.putAt (s.j p) t) (s'.putAt (s'.j (π p)) (t.sub (nums π))):=by
 refine ⟨h.j,fun q=> ?_⟩;simp only [St.putAt];by_cases h1:s.j q=s.j p
 ·rw [if_pos ((h.j q p).1 h1),if_pos h1];rfl
 ·rw [if_neg (fun h2=>h1 ((h.j q p).2 h2)),if_neg h1];exact h.v q
theorem join_j (s:St)(P Q i:Nat):(s.join P Q).j i=if s.j i=P\/s.j i=Q then min P Q else s.j i:=rfl
theorem join_v (s:St)(P Q i:Nat):(s.join P Q).v i=if i=min P Q then (match s.v P with | some t=>some t | none=>s.v Q) else s.v i:=rfl
theorem min_or (P Q:Nat):min P Q=P\/min P Q=Q:=by
 rcases Nat.le_total P Q with hl | hl
 ·exact .inl (Nat.min_eq_left hl)
 ·exact .inr (Nat.min_eq_right hl)
theorem Ren.join {s s':St}(h:Ren π s s')(p q:Nat):Ren π (s.join (s.j p) (s.j q)) (s'.join (s'.j (π p)) (s'.j (π q))):=by
 have io: ∀i,(s'.j (π i)=s'.j (π p)\/s'.j (π i)=s'.j (π q))↔(s.j i=s.j p\/s.j i=s.j q):=fun i=>by rw [h.j i p,h.j i q]
 refine ⟨fun a b=> ?_,fun a=> ?_⟩
 ·rw [join_j,join_j,join_j,join_j]
  by_cases ha:s.j a=s.j p\/s.j a=s.j q
  ·rw [if_pos ha,if_pos ((io a).2 ha)]
   by_cases hb:s.j b=s.j p\/s.j b=s.j q
   ·rw [if_pos hb,if_pos ((io b).2 hb)];simp
   ·rw [if_neg hb,if_neg (fun h=>hb ((io b).1 h))]
    constructor
    ·intro h1;rcases min_or (s.j p) (s.j q) with h2 | h2
     ·exact absurd (.inl (by rw [<-h1,h2])) hb
     ·exact absurd (.inr (by rw [<-h1,h2])) hb
    ·intro h1;rcases min_or (s'.j (π p)) (s'.j (π q)) with h2 | h2
     ·exact absurd ((io b).1 (.inl (by rw [<-h1,h2]))) hb
     ·exact absurd ((io b).1 (.inr (by rw [<-h1,h2]))) hb
  ·rw [if_neg ha,if_neg (fun h=>ha ((io a).1 h))]
   by_cases hb:s.j b=s.j p\/s.j b=s.j q
   ·rw [if_pos hb,if_pos ((io b).2 hb)]
    constructor
    ·intro h1;rcases min_or (s.j p) (s.j q) with h2 | h2
     ·exact absurd (.inl (by rw [h1,h2])) ha
     ·exact absurd (.inr (by rw [h1,h2])) ha
    ·intro h1;rcases min_or (s'.j (π p)) (s'.j (π q)) with h2 | h2
     ·exact absurd ((io a).1 (.inl (by rw [h1,h2]))) ha
     ·exact absurd ((io a).1 (.inr (by rw [h1,h2]))) ha
   ·rw [if_neg hb,if_neg (fun h=>hb ((io b).1 h))];exact h.j a b
 ·rw [join_j,join_j]
  by_cases ha:s.j a=s.j p\/s.j a=s.j q
  ·rw [if_pos ha,if_pos ((io a).2 ha),join_v,join_v,if_pos rfl,if_pos rfl,h.v p,h.v q]
   cases s.v (s.j p) <;>rfl
  ·rw [if_neg ha,if_neg (fun h=>ha ((io a).1 h)),join_v,join_v,if_neg,if_neg]
   ·exact h.v a
   ·intro h1;rcases min_or (s.j p) (s.j q) with h2 | h2
    ·exact ha (.inl (by rw [h1,h2]))
    ·exact ha (.inr (by rw [h1,h2]))
   ·intro h1;rcases min_or (s'.j (π p)) (s'.j (π q)) with h2 | h2
    ·exact ha ((io a).1 (.inl (by rw [h1,h2])))
    ·exact ha ((io a).1 (.inr (by rw [h1,h2])))
def RenStep (π:Nat->Nat)(Q:Tm->Prop)(st:St->Tm->Tm->Option (Option St)):Prop:=
 ∀s s' x y,Q x->Q y->yS Q s->Ren π s s'->RenO π Q (st s x y) (st s' (x.sub (nums π)) (y.sub (nums π)))
theorem RenO.bind {r r':Option (Option St)}{F F':St->Option (Option St)}:RenO π Q r r'->(∀s s',Ren π s s'->yS Q s->RenO π Q (F s) (F' s'))->
 RenO π Q (match r with | some (some s)=>F s | q=>q) (match r' with | some (some s)=>F' s | q=>q):=by
 intro h hF
 cases r with
 |none=>cases r' with
  |none=>trivial
  |some q=>exact h.elim
 |some q=>cases q with
  |none=>cases r' with
   |none=>exact h.elim
   |some q'=>cases q' with
    |none=>trivial
    |some _=>exact h.elim
  |some s=>cases r' with
   |none=>exact h.elim
   |some q'=>cases q' with
    |none=>exact h.elim
    |some s'=>exact hF s s' h.1 h.2
theorem seqN_ren {st:St->Tm->Tm->Option (Option St)}(hst:RenStep π Q st): ∀(as bs:List Tm)(s s':St),(∀a∈as,Q a)->(∀b∈bs,Q b)->yS Q s->Ren π s s'->
 RenO π Q (seqN st s as bs) (seqN st s' (as.map (Tm.sub (nums π))) (bs.map (Tm.sub (nums π)))):=by
 intro as
 induction as with
 |nil=>intro bs s s' _ _ hq h;simp only [List.map_nil,seqN];exact ⟨h,hq⟩
 |cons a as ih=>
  intro bs s s' ha hb hq h
  cases bs with
  |nil=>simp only [List.map_cons,List.map_nil,seqN];exact ⟨h,hq⟩
  |cons b bs=>
   simp only [List.map_cons,seqN];exact (hst s s' a b (ha a (by simp)) (hb b (by simp)) hq h).bind fun s1 s1' h1 q1=>ih bs s1 s1' (fun a h=>ha a (by simp [h])) (fun b h=>hb b (by simp [h])) q1 h1
theorem seqF_ren {st:St->Tm->Tm->Option (Option St)}(hst:RenStep π Q st): ∀(as bs:List Tm)(ns ms:List (List UInt8))(s s':St),(∀a∈as,Q a)->(∀b∈bs,Q b)->yS Q s->Ren π s s'->
 RenO π Q (seqF st s ns ms as bs) (seqF st s' ns ms (as.map (Tm.sub (nums π))) (bs.map (Tm.sub (nums π)))):=by
 intro as
 induction as with
 |nil=>intro bs ns ms s s' _ _ hq h;simp only [List.map_nil,seqF];exact ⟨h,hq⟩
 |cons a as ih=>
  intro bs ns ms s s' ha hb hq h
  cases bs with
  |nil=>simp only [List.map_cons,List.map_nil,seqF];exact ⟨h,hq⟩
  |cons b bs=>
   simp only [List.map_cons,seqF]
   split
   ·trivial
   ·exact (hst s s' a b (ha a (by simp)) (hb b (by simp)) hq h).bind fun s1 s1' h1 q1=>ih bs _ _ s1 s1' (fun a h=>ha a (by simp [h])) (fun b h=>hb b (by simp [h])) q1 h1
theorem tupN_ren {st:Option (St->Tm->Tm->Option (Option St))}(hst: ∀f,st=some f->RenStep π Q f)(n o:Nat)(as bs:List Tm)(s s':St)(ha: ∀a∈as,Q a)(hb: ∀b∈bs,Q b)(hq:yS Q s)(h:Ren π s s'):
 RenO π Q (tupN st s n o as bs) (tupN st s' n o (as.map (Tm.sub (nums π))) (bs.map (Tm.sub (nums π)))):=by
 unfold tupN
 cases st with
 |none=>
  simp only [List.length_map]
  split
  ·exact ⟨h,hq⟩
  ·trivial
 |some f=>
  simp only [List.length_map]
  split
  ·trivial
  split
  ·trivial
  ·exact seqN_ren (hst f rfl) as bs s s' ha hb hq h
def RenStepM (π:Nat->Nat)(Q:Tm->Prop)(st:St->Tm->Tm->Mode->Option (Option St)):Prop:= ∀m,RenStep π Q (fun s a b=>st s a b m)
theorem node_ren {step:St->Tm->Tm->Mode->Option (Option St)}{zQ:Option (St->Tm->Tm->Mode->Option (Option St))}(h1:RenStepM π Q step)(h2: ∀f,zQ=some f->RenStepM π Q f)
 (s s':St) (f:Lab) (as:List Tm) (g:Lab) (bs:List Tm) (m:Mode) (ha: ∀a∈as,Q a) (hb: ∀b∈bs,Q b) (hq:yS Q s) (h:Ren π s s'):
 RenO π Q (zK step zQ s f as g bs m) (zK step zQ s' f (as.map (Tm.sub (nums π))) g (bs.map (Tm.sub (nums π))) m):=by
 have S:=fun m=>seqN_ren (h1 m) as bs s s' ha hb hq h
 unfold zK
 split
 ·trivial
 split
 ·split
  ·exact ⟨h,hq⟩
  ·trivial
 split
 ·simp only [List.length_map]
  split
  ·trivial
  ·refine (S m).bind fun s1 s1' r1 q1=> ?_
   split
   ·exact ⟨r1,q1⟩
   ·trivial
 split
 ·split
  ·trivial
  ·exact S _
 split
 ·split
  ·trivial
  ·exact S _
 split
 ·simp only [List.length_map]
  split
  ·trivial
  ·exact seqF_ren (h1 _) as bs _ _ s s' ha hb hq h
 split
 ·split
  ·trivial
  ·have h2': ∀q,(zQ.map fun st s a b=>st s a b (inner m))=some q->RenStep π Q q:=fun q e=>by
    cases zQ with
    |none=>cases e
    |some st=>cases e;exact h2 st rfl _
   rw [<-List.map_take,<-List.map_take,<-List.map_drop,<-List.map_drop];refine (tupN_ren h2' _ _ _ _ s s' (fun a h=>ha a (List.mem_of_mem_take h)) (fun a h=>hb a (List.mem_of_mem_take h)) hq h).bind fun s1 s1' r1 q1=> ?_
   exact tupN_ren h2' _ _ _ _ s1 s1' (fun a h=>ha a (List.mem_of_mem_drop h)) (fun a h=>hb a (List.mem_of_mem_drop h)) q1 r1
 ·exact S _
theorem isNamed_sub (t:Tm):xR (t.sub (nums π))=xR t:=by
 cases t with
 |var p=>rw [Tm.sub_var];rfl
 |node f as=>rw [Tm.sub_node];rfl
theorem dirChan_sub (t:Tm):dirChan (t.sub (nums π))=dirChan t:=by
 cases t with
 |var p=>rw [Tm.sub_var];rfl
 |node f as=>rw [Tm.sub_node];rfl
theorem nify_ren (E:Eqv D π Q): ∀k,RenStepM π Q (zJ D k):=by
 intro k
 induction k using Nat.strongRecOn with
 |ind k ih=>
  intro m s s' x y hx hy hq h
  cases k with
  |zero=>trivial
  |succ k=>
   have IH:=ih k (by omega);have mt: ∀(p:Nat) (g:Lab) (bs:List Tm),Q (.node g bs)->RenO π Q (yB (zJ D k) s p (.node g bs) m) (yB (zJ D k) s' (π p) ((Tm.node g bs).sub (nums π)) m):=by
    intro p g bs hg;unfold yB St.get;rw [h.v p]
    cases hv:s.v (s.j p) with
    |none=>exact ⟨h.putAt p _,hq.putAt hg⟩
    |some u=>
     dsimp only [Option.map_some];refine (IH m s s' u (.node g bs) (hq _ _ hv) hg hq h).bind fun s1 s1' r1 q1=> ?_
     rw [isNamed_sub,isNamed_sub,dirChan_sub]
     split
     ·exact ⟨r1,q1⟩
     split
     ·exact ⟨r1.putAt p _,q1.putAt hg⟩
     ·exact ⟨r1,q1⟩
   cases x with
   |var p=>
    cases y with
    |var q=>
     rw [Tm.sub_var,Tm.sub_var];show RenO π Q (yW (zJ D k) s q p m) (yW (zJ D k) s' (π q) (π p) m);unfold yW St.get;by_cases hj:s.j q=s.j p
     ·rw [if_pos hj,if_pos ((h.j q p).1 hj)];exact ⟨h,hq⟩
     ·rw [if_neg hj,if_neg (fun e=>hj ((h.j q p).2 e)),h.v q,h.v p]
      cases hp:s.v (s.j q) with
      |none=>
       refine ⟨h.join q p,?_⟩;exact hq.join _ _
      |some u=>
       cases hp':s.v (s.j p) with
       |none=>exact ⟨h.join q p,hq.join _ _⟩
       |some v=>exact IH m s s' u v (hq _ _ hp) (hq _ _ hp') hq h
    |node g bs=>
     have:=mt p g bs hy;rw [Tm.sub_var];rw [Tm.sub_node] at this ⊢;exact this
   |node f as=>
    cases y with
    |var q=>
     have:=mt q f as hx;rw [Tm.sub_var];rw [Tm.sub_node] at this ⊢;exact this
    |node g bs=>
     have lit: ∀(f:Lab) (as:List Tm) (g:Lab) (bs:List Tm),Q (.node f as)->Q (.node g bs)->
      RenO π Q (xD D (zJ D k) (zQ D k) s f as g bs m) (xD D (zJ D k) (zQ D k) s' f (as.map (Tm.sub (nums π))) g (bs.map (Tm.sub (nums π))) m):=by
      intro f as g bs hf hg;have h2: ∀st,zQ D k=some st->RenStepM π Q st:=fun st e=>by
       cases k with
       |zero=>cases e
       |succ k'=>cases e;exact ih k' (by omega)
      unfold xD
      split
      ·have hc:=E.com _ hg
       rw [Tm.sub_node] at hc;rw [hc];have hu:=E.und _ hg
       cases he:und D (.node g bs) with
       |var p=>rw [Tm.sub_var];trivial
       |node g' bs'=>
        rw [he] at hu;rw [Tm.sub_node];exact node_ren IH h2 s s' f as g' bs' m (fun a ha=>E.kid _ _ a hf ha) (fun b hb=>E.kid _ _ b hu hb) hq h
      ·exact node_ren IH h2 s s' f as g bs m (fun a ha=>E.kid _ _ a hf ha) (fun b hb=>E.kid _ _ b hg hb) hq h
     rw [Tm.sub_node,Tm.sub_node];dsimp only;rw [xT,xT]
     split
     ·exact lit g bs f as hy hx
     ·exact lit f as g bs hx hy
theorem Ren.init (E:Eqv D π Q):Ren π St.init St.init:=by
 refine ⟨fun p q=> ?_,fun p=>rfl⟩;show p=q↔π p=π q;exact ⟨fun h=>by rw [h],fun h=>by rw [<-E.pi p,<-E.pi q,h]⟩
end
end Uni
end
