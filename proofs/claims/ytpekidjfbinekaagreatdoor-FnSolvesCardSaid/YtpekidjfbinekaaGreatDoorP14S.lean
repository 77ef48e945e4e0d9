/- P14 -/
import Derived.Test.YtpekidjfbinekaaGreatDoorA03
set_option maxRecDepth 100000
set_option maxHeartbeats 60000000
set_option linter.all false
namespace Uni
theorem Tm.sub_ext {θ θ':Nat->Tm}: ∀t:Tm,(∀p,Occ t p->θ p=θ' p)->t.sub θ=t.sub θ':=by
 intro t
 induction t using Tm.ind with
 |hv p=>intro h;rw [Tm.sub_var,Tm.sub_var];exact h p (.var p)
 |hn f as ih=>
  intro h;rw [Tm.sub_node,Tm.sub_node]
  congr 1
  exact List.map_congr_left fun a ha=>ih a ha fun p hp=>h p (.node f as a p ha hp)
theorem Tm.sub_sub (θ θ':Nat->Tm): ∀t:Tm,(t.sub θ).sub θ'=t.sub fun p=>(θ p).sub θ':=by
 intro t
 induction t using Tm.ind with
 |hv p=>rw [Tm.sub_var,Tm.sub_var]
 |hn f as ih=>
  rw [Tm.sub_node,Tm.sub_node,Tm.sub_node,List.map_map]
  congr 1
  exact List.map_congr_left fun a ha=>ih a ha
section
variable {D:zE}{M:Mg}{nd:Nat}{ar:Nat->Nat}
theorem Ht.occ {n:Nat}: ∀ {t:Tm}{p:Nat},Occ t p->Ht D M n t->Ht D M n (.var p):=by
 intro t p h
 induction h with
 |var p=>exact id
 |node f as a p ha _ ih=>
  intro h;obtain ⟨n',hl,h'⟩:=h.kid ha;exact ih (h'.mono (by omega))
def tau (s:St)(p:Nat):Tm:=(s.v (s.j p)).getD (.var (s.j p))
def iter (s:St):Nat→Tm→Tm
 |0,t=>t
 |k + 1,t=>iter s k (t.sub (tau s))
theorem full_none {s:St}{p:Nat}(h:s.v (s.j p)=none):full s p= .var (s.j p):=
 full_of (N:=1) (by rw [simS,h])
theorem tau_full {s:St}(hs:Inv M s){t:Tm}(ht: ∀p,Occ t p->Tall D M p):(t.sub (tau s)).sub (full s)=t.sub (full s):=by
 rw [Tm.sub_sub];refine Tm.sub_ext t fun p hp=> ?_
 have h:=full_sol hs p (ht p hp);unfold tau
 cases hv:s.v (s.j p) with
 |none=>simp only [Option.getD_none];rw [Tm.sub_var];exact h.1.symm
 |some u=>simp only [Option.getD_some];exact (h.2 u hv).symm
theorem iter_full {s:St}(hs:Inv M s): ∀(k:Nat)(t:Tm),(∀p,Occ t p->Tall D M p/\DeepAt s k p)->iter s k t=t.sub (full s):=by
 intro k
 induction k with
 |zero=>
  intro t h;rw [iter];rw [Tm.sub_ext t (θ':= .var)]
  ·exact (Tm.sub_id t).symm
  ·intro p hp
   obtain ⟨_,h1,h2⟩:=h p hp;rw [full_none h1,h2]
 |succ k ih=>
  intro t h;rw [iter,ih,tau_full hs (fun p hp=>(h p hp).1)];intro q hq;obtain ⟨p,h1,h2⟩:=Occ.sub hq;obtain ⟨ht,hd⟩:=h p h1;unfold tau at h2
  cases hv:s.v (s.j p) with
  |none=>
   rw [hv] at h2;simp only [Option.getD_none] at h2
   cases h2 with
   |var=>
    refine ⟨ht.cls (hs.cls p).symm,DeepAt.mono (k:=0) ⟨?_,hs.idem p⟩ (Nat.zero_le _)⟩;rw [hs.idem p];exact hv
  |some u=>
   rw [hv] at h2;simp only [Option.getD_some] at h2;refine ⟨?_,?_⟩
   ·obtain ⟨n,hn⟩:=ht
    obtain ⟨n',e,hn'⟩:=hn.of_var;exact ⟨n',(hn' u (hs.val p u hv)).occ h2⟩
   ·rcases hd with hd | ⟨u',h3,h4⟩
    ·rw [hv] at hd;cases hd
    ·rw [hv] at h3;cases h3;exact h4 q h2
open Classical in
theorem countP_lt {α:Type}{p q:α->Bool}(hpq: ∀a,p a=true->q a=true): ∀(l:List α)(a:α),a∈l->q a=true->p a=false->l.countP p < l.countP q:=by
 intro l
 induction l with
 |nil=>intro a h;cases h
 |cons b l ih=>
  intro a ha hq hp;rw [List.countP_cons,List.countP_cons];have mono:l.countP p<=l.countP q:=List.countP_mono_left fun x _=>hpq x
  rcases List.mem_cons.1 ha with rfl | ha
  ·rw [hp,hq];simp;omega
  ·have:=ih a ha hq hp
   have:=hpq b;cases h1:p b <;>cases h2:q b <;>simp_all <;>omega
theorem deep_at {s:St}(hs:Inv M s){n:Nat}(hlt: ∀p,p < n->s.j p < n)(hval: ∀p u,p < n->s.v (s.j p)=some u-> ∀q,Occ u q->q < n): ∀(h p:Nat),p < n->Ht D M h (.var p)->DeepAt s (cnt D M s n h) p:=by
 intro h
 induction h using Nat.strongRecOn with
 |ind h ih=>
  intro p hp hh;obtain ⟨a,ha,h1,hmin⟩:=hh.least;obtain ⟨a',rfl,hv⟩:=h1.of_var
  have hc:cnt D M s n a' + 1≤cnt D M s n h:=by
   refine countP_lt (fun c hc=> ?_) (List.range n) (s.j p) (List.mem_range.2 (hlt p hp)) ?_ ?_
   ·simp only [decide_eq_true_eq] at hc ⊢
    exact ⟨hc.1,hc.2.mono (by omega)⟩
   ·simp only [decide_eq_true_eq]
    exact ⟨hs.idem p,hh.cls (hs.cls p).symm⟩
   ·simp only [decide_eq_false_iff_not]
    rintro ⟨_,h2⟩;exact hmin a' (by omega) (h2.cls (hs.cls p))
  refine DeepAt.mono (k:=cnt D M s n a' + 1) ?_ hc
  cases hw:s.v (s.j p) with
  |none=>exact .inl hw
  |some u=>exact .inr ⟨u,hw,fun q hq=>ih a' (by omega) q (hval p u hp hw q hq) ((hv u (hs.val p u hw)).occ hq)⟩
theorem cnt_le {s:St}(n h:Nat):cnt D M s n h<=n:=by
 unfold cnt;exact Nat.le_trans List.countP_le_length (Nat.le_of_eq List.length_range)
theorem rounds {s:St}(hs:Inv M s){n:Nat}(hlt: ∀p,p < n->s.j p < n)(hval: ∀p u,p < n->s.v (s.j p)=some u-> ∀q,Occ u q->q < n){t:Tm}{h:Nat}(ht:Ht D M h t)(hn: ∀p,Occ t p->p < n):iter s n t=t.sub (full s):=
 iter_full (D:=D) hs n t fun p hp=>⟨⟨h,ht.occ hp⟩,(deep_at hs hlt hval h p (hn p hp) (ht.occ hp)).mono (cnt_le n h)⟩
end
end Uni
