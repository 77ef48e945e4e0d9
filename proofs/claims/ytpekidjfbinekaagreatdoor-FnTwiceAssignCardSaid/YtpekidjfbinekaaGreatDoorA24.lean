/- J1, J2 -/
import Derived.Test.YtpekidjfbinekaaGreatDoorA23
set_option maxRecDepth 100000
set_option maxHeartbeats 60000000
set_option linter.all false
namespace Go.Proofs.YtpekidjfbinekaaGreatDoor
open Go.RowKit Uni
structure BRow (w:World) (A:Nat→Prop) (B:Nat) (ov:Value) (j:Nat) (rs:List TyV) (ts:List Tm):Prop where
 len:rs.length=j
 own:OwnT w B ov rs
 rt: ∀(i:Nat) (r:TyV) (t:Tm),rs[i]?=some r->ts[i]?=some t->RT w (fun b=>A b\/ov.ownBlock=some b) r t
 nil:j=0->ov= .slice none 0 0
theorem BRow.start (w:World)(A:Nat->Prop)(B:Nat)(ts:List Tm):BRow w A B (.slice none 0 0) 0 [] ts:=⟨rfl,World.ownsRow_nil _ _ _ _,fun i r t h=>by simp at h,fun _=>rfl⟩
theorem BRow.keep {w w':World}{A:Nat->Prop}{B:Nat}{ov:Value}{j:Nat}{rs:List TyV}{ts:List Tm}(h:BRow w A B ov j rs ts)(f:Fr A w w')(hA: ∀b,A b->b < B):BRow w' A B ov j rs ts:=
 ⟨h.len,zV h.own f (fun g hg ha=>by have h1:=(World.ownsRow.lt h.own g hg).1;have h2:=hA g ha;omega),fun i r t h1 h2=>(h.rt i r t h1 h2).keep (f.mono fun _ _ hb=> .inl hb),h.nil⟩
theorem BRow.next {w w2 w3:World}{A:Nat->Prop}{B:Nat}{ov:Value}{j g cap:Nat}{rs:List TyV}{ts:List Tm}(h:BRow w A B ov j rs ts)(f:Fr F0 w w2){r:TyV}{t:Tm}(ht:ts[j]?=some t)(hr:RT w2 (fun b=>A b\/ov.ownBlock=some b) r t)
 (fg:Fr (fun b=>ov.ownBlock=some b) w2 w3) (hown:OwnT w3 B (.slice (some ⟨g,0,none⟩) (j + 1) cap) (rs ++ [r])) (hg:ov.ownBlock=some g\/w2.heap.size<=g):BRow w3 A B (.slice (some ⟨g,0,none⟩) (j + 1) cap) (j + 1) (rs ++ [r]) ts:=by
 have tr: ∀ {r:TyV} {t:Tm},RT w2 (fun b=>A b∨ov.ownBlock=some b) r t→RT w3 (fun b=>A b∨(Value.slice (some ⟨g,0,none⟩) (j + 1) cap).ownBlock=some b) r t:=by
  intro r t h
  have h1:RT w2 (fun b=>(A b∨ov.ownBlock=some b)∨b=g) r t:=h.avoid (fun b hb=>by
   rcases hb with hb | hb
   ·exact .inl hb
   ·subst hb
    rcases hg with h | h
    ·exact .inl (.inr h)
    ·exact .inr h)
  refine (h1.keep (fg.mono fun b _ hb=> .inl (.inr hb))).mono fun b hb=> ?_
  rcases hb with hb | hb
  ·exact .inl (.inl hb)
  ·exact .inr (Option.some.inj hb).symm
 refine ⟨by simp [h.len],hown,fun i r' t' hi hti=> ?_,fun h=>absurd h (by omega)⟩;by_cases hij:i < j
 ·rw [List.getElem?_append_left (by rw [h.len];exact hij)] at hi
  exact tr ((h.rt i r' t' hi hti).keep f.sub)
 ·have hij:i=j:=by
   have:=(List.getElem?_eq_some_iff.1 hi).1;simp [h.len] at this;omega
  subst hij;rw [List.getElem?_append_right (by rw [h.len];exact Nat.le_refl _),h.len,Nat.sub_self] at hi;cases hi
  rw [ht] at hti;cases hti
  exact tr hr
theorem BRow.fin {w:World}{A:Nat->Prop}{B:Nat}{ov:Value}{j:Nat}{rs:List TyV}{ts:List Tm}(h:BRow w A B ov j rs ts)(hA: ∀b,A b->b < B):
 ∃a c,ov= .slice a j c/\xB w A a rs/\j<=c/\c<=maxLen/\ ∀(i:Nat) (r:TyV) (t:Tm),rs[i]?=some r->ts[i]?=some t->RT w A r t:=by
 obtain ⟨a,c,h1,h2,h3,h4⟩:=OwnT.elems h.own A (fun g hg ha=>by have h1:=(World.ownsRow.lt h.own g hg).1;have h2:=hA g ha;omega);rw [h.len] at h1 h3;exact ⟨a,c,h1,h2,h3,h4,fun i r t h5 h6=>(h.rt i r t h5 h6).mono fun b hb=> .inl hb⟩
section
variable {E:GEnv}{bb:Nat}{da:Option Addr}{dl dc:Nat}{ar:Nat->Nat}(w:World)(M:Nat->Prop)
theorem back_var (hB:BEnv w E bb da dl dc ar)(p:Nat)(hp:p < E.n):Calls Tryz.prog 64 #[.pointer (some ⟨bb,0,none⟩),.iface 95 (.pointer (some (E.tp p)))] w (yC w M (.var p)):=by
 have A0:=zD p179;have A1:=zD p95;have FA:=hid ((Fr.refl F0 w).alloc (.cells #[.int .i64 0,.int .i64 0,.int .i64 0,.bool false,.slice none 0 0,.string ⟨#[]⟩] 26));have R4:=hid (heap_alloc_new w (.cells #[.int .i64 0,.int .i64 0,.int .i64 0,.bool false,.slice none 0 0,.string ⟨#[]⟩] 26));have HB:=hid (hB.keep FA.out);clear hB;go_enter Tryz.func64,Tryz.ntmps64;go_wp2_with fail
 refine (param_any _ HB.out p hp).mono ?_;rintro e w1 ⟨rfl,rfl⟩;go_wp2_with (refine zR rfl _ _ rfl rfl w.heap.size ⟨2,p,0,false,none,0,0,⟨#[]⟩⟩ rfl rfl R4.out ?_)
 intro WF hWF fWF;have HW:=hid hWF;have FW:=hid (FA.out.transNew fWF (fun x hx=> .inr (by omega)));clear hWF fWF;go_wp2;refine bodyPost_ret (ret6 rfl rfl HW.out) rfl ?_;exact ⟨⟨2,p,0,false,none,0,0,⟨#[]⟩⟩,rfl,.var _ p rfl rfl rfl (Nat.zero_le _),FW.out⟩
theorem back_three:
 (∀(hM: ∀b,M b→b < w.heap.size) (pv:Value) (t:Tm) (H: ∀(M:Nat→Prop) w',Fr F0 w w'→(∀b,M b→b < w'.heap.size)→Calls Tryz.prog 97 #[.pointer (some ⟨bb,0,none⟩),pv] w' (yC w' M t)),
  Calls Tryz.prog 64 #[.pointer (some ⟨bb,0,none⟩),.iface 106 pv] w (yC w M t))/\
 (∀(hM: ∀b,M b→b < w.heap.size) (pv:Value) (t:Tm) (H: ∀(M:Nat→Prop) w',Fr F0 w w'→(∀b,M b→b < w'.heap.size)→Calls Tryz.prog 107 #[.pointer (some ⟨bb,0,none⟩),pv] w' (yC w' M t)),
  Calls Tryz.prog 64 #[.pointer (some ⟨bb,0,none⟩),.iface 156 pv] w (yC w M t))/\
 (∀(hM: ∀b,M b→b < w.heap.size) (pv:Value) (t:Tm) (H: ∀(M:Nat→Prop) w',Fr F0 w w'→(∀b,M b→b < w'.heap.size)→Calls Tryz.prog 108 #[.pointer (some ⟨bb,0,none⟩),pv] w' (yC w' M t)),
  Calls Tryz.prog 64 #[.pointer (some ⟨bb,0,none⟩),.iface 128 pv] w (yC w M t)):=by
 refine ⟨@fun hM pv t H=>have tg:Fin 1:=0;?_,@fun hM pv t H=>have tg:Fin 2:=0;?_,@fun hM pv t H=>have tg:Fin 3:=0;?_⟩
 all_goals
  have A0:=zD p179;have A1:=zD p95;have A2:=zD p106
  first
  |rename Fin 1=>tg
  |rename Fin 2=>tg
   have A3:=zD p142;have A4:=zD p144;have A5:=zD p146;have A6:=zD p148;have A7:=zD p150;have A8:=zD p156
  |have A3:=zD p142
   have A4:=zD p144;have A5:=zD p146;have A6:=zD p148;have A7:=zD p150;have A8:=zD p156;have A9:=zD p128
  have FA:=hid ((Fr.refl F0 w).alloc (.cells #[.int .i64 0,.int .i64 0,.int .i64 0,.bool false,.slice none 0 0,.string ⟨#[]⟩] 26));have R4:=hid (heap_alloc_new w (.cells #[.int .i64 0,.int .i64 0,.int .i64 0,.bool false,.slice none 0 0,.string ⟨#[]⟩] 26));have HH:=hid H;have HM:=hid hM;clear H hM
  have MX:=hid (show ∀b,(M b∨b=w.heap.size)→b < (w.alloc (.cells #[.int .i64 0,.int .i64 0,.int .i64 0,.bool false,.slice none 0 0,.string ⟨#[]⟩] 26)).heap.size from fun b hb=>by
   have h1:=zF R4.out;have h2:=FA.out.size;rcases hb with hb | hb
   ·have:=HM.out b hb;omega
   ·omega)
  go_enter Tryz.func64,Tryz.ntmps64;go_wp2_with fail
  refine (HH.out (fun b=>M b\/b=w.heap.size) _ FA.out MX.out).mono ?_;rintro e w2 ⟨r,rfl,hr,hf⟩;have F2:=hid (FA.out.trans hf);have R2:=hid (hf.heap id R4.out);have RR:=hid hr;clear hr hf;unfold TyV.val;go_wp2_with (refine zR rfl _ _ rfl rfl w.heap.size r rfl rfl R2.out ?_)
  intro WF hWF fWF;have HW:=hid hWF;have FW:=hid (F2.out.transNew fWF (fun x hx=> .inr (by omega)));have RF:=hid ((RR.out.keep (fWF.mono fun b _ hb=> .inr hb)).mono (M':=M) fun b hb=> .inl hb);clear hWF fWF;go_wp2;refine bodyPost_ret (ret6 rfl rfl HW.out) rfl ?_;exact ⟨r,rfl,RF.out,FW.out⟩
end
theorem isEq106:isEqTy 106=true:=by kernel_rfl
theorem eq_ptr106 {w:World}{a b:Addr}{ca cb:Array Value}{ta tb:TypeId}(ha:w.heap[a.block]?=some (.cells ca ta (0,0)))(hb:w.heap[b.block]?=some (.cells cb tb (0,0))):(binOp .eql 106 (.pointer (some a)) (.pointer (some b))).run Tryz.prog w= .ok (.bool (decide (a=b))) w:=by
 obtain ⟨e,i,j,hp,hinfo,hc,hte,hsz⟩:=isEqTy_of isEq106
 have key: ∀d:Nat,(Op.equalIn (d + 1) 106 (.pointer (some a)) (.pointer (some b))).run Tryz.prog w= .ok (decide (a=b)) w:=fun d=>by
  by_cases hab:a=b
  ·subst hab
   simp [Op.equalIn,run_underlying hp,sizeOf,typeInfo,hte,run_sameAddr_same]
  ·simp [Op.equalIn,run_underlying hp,sizeOf,typeInfo,hte,hsz,hab,run_sameAddr_other w hab ha hb]
 simp only [binOp];simp [Op.equal,Op.maxDepth,key 9999]
theorem tlLen_any (w:World)(lb:Nat)(ta:Option Addr)(L tc:Nat)(h:w.heap[lb]?=some (.cells #[.slice ta L tc] 282 (0,0))):Calls Tryz.prog 136 #[.pointer (some ⟨lb,0,none⟩)] w fun e w'=>e= .returned (.int .i64 L)/\w'=w:=by
 have H:=hid h;clear h;go_enter Tryz.func136,Tryz.ntmps136;go_wp2_with fail
 refine (list_some lb _ _ H.out).mono ?_;rintro e w1 ⟨rfl,rfl⟩;go_wp2;go_ret;exact ⟨rfl,rfl⟩
theorem tlAt_any (w:World)(lb b off L tc i:Nat)(v:Value)(hi:i < L)(h:w.heap[lb]?=some (.cells #[.slice (some ⟨b,off,none⟩) L tc] 282 (0,0)))(hc:w.cell? ⟨b,off + i,none⟩=some v):Calls Tryz.prog 137 #[.pointer (some ⟨lb,0,none⟩),.int .i64 i] w fun e w'=>e= .returned v/\w'=w:=by
 have q:=zA h;have sz:=zF h;have s1:=World.block_lt_of_cell? _ _ hc;dsimp only at s1;have hle:(i:Int) < L:=by omega
 clear h;go_enter Tryz.func137,Tryz.ntmps137;go_wp2;go_ret;exact ⟨rfl,rfl⟩
def yK:Array Value:= #[.int .i64 0,.int .i64 0,.int .i64 0,.bool false,.slice none 0 0,.string ⟨#[]⟩]
structure NmRel (w:World) (n nd j:Nat) (wr:World):Prop where
 f:Fr F0 w wr
 z:wr.heap[w.heap.size]?=some (.cells yK 26 (0,0))
 b:wr.heap[w.heap.size + 1]?=some (.cells #[.int .i64 1,.int .i64 (if n < j then n else -1),.int .i64 0,.bool false,.slice none 0 0,.string ⟨#[]⟩] 26 (0,0))
theorem backNamed_nil {E:GEnv}{bb:Nat}{da:Option Addr}{dl dc:Nat}{ar:Nat->Nat}(w:World)(M:Nat->Prop)(hB:BEnv w E bb da dl dc ar)(hM: ∀b,M b->b < w.heap.size)(f:Lab)(a:Nat)(hk:f.kind=1)(hN:Norm f)(hn:f.n < E.nd)(hnd16:E.nd<=16)
 (HO: ∀w',Fr F0 w w'->Calls Tryz.prog 134 #[.pointer (some ⟨a,0,none⟩)] w' fun e w''=>e= .returned (.pointer (some ⟨E.nm f.n,0,none⟩))/\w''=w') (HT: ∀w',Fr F0 w w'->Calls Tryz.prog 135 #[.pointer (some ⟨a,0,none⟩)] w' fun e w''=>e= .returned (.pointer none)/\w''=w')
 :
 Calls Tryz.prog 97 #[.pointer (some ⟨bb,0,none⟩),.pointer (some ⟨a,0,none⟩)] w (yC w M (.node f [])):=by
 obtain ⟨na,nc,pa,pc,hbb,hnp,_⟩:=hB.b;obtain ⟨tb,to,rfl,htc⟩:=hnp.resolve_left (by omega);have HB:=hid hB;have BB:=hid hbb;have TC:=hid htc;have HM:=hid hM;have HK:=hid hk;have HN:=hid hN;have HOO:=hid HO;have HTT:=hid HT;obtain ⟨nd,hnd⟩: ∃nd,nd=E.nd:=⟨_,rfl⟩;have ND:=hid hnd;rw [<-hnd] at hn BB;rw [<-hnd] at hnd16;clear hB hbb htc hnp hM hk hN HO HT hnd;go_enter Tryz.func97,Tryz.ntmps97;go_wp2_with (refine zR rfl _ _ rfl rfl (w.heap.size + 1) ⟨1,-1,0,false,none,0,0,⟨#[]⟩⟩ rfl rfl (zS w (.cells yK 26) (.cells yK 26)) ?_)
 intro W1 hW fW
 have R0:=hid (show NmRel w f.n nd 0 W1 from by
  have f2:Fr F0 w ((w.alloc (.cells yK 26)).alloc (.cells yK 26)):=((Fr.refl F0 w).alloc _).alloc _;have z2:((w.alloc (.cells yK 26)).alloc (.cells yK 26)).heap[w.heap.size]?=some (.cells yK 26 (0,0)):=((Fr.refl F0 _).alloc (.cells yK 26)).heap id (heap_alloc_new w (.cells yK 26));exact ⟨f2.transNew fW (fun x hx=> .inr (by omega)),fW.heap (by omega) z2,by rw [if_neg (by omega)];exact hW⟩)
 have qb:=zA (R0.out.f.heap id BB.out);have sb:=zF (R0.out.f.heap id BB.out);clear hW fW;go_wp2_with fail
 clear qb sb;go_loopw [6,7,16] (fun _ _ i wr=> ∃j:Nat,j<=nd/\i= .int .i64 j/\NmRel w f.n nd j wr) (fun _ _ i _=>nd - (intOf i).toNat)
 case atStart=>exact ⟨0,Nat.zero_le _,rfl,R0.out⟩
 case round=>
  obtain ⟨WX,rfl⟩: ∃WX:World,WX=wr:=⟨wr,rfl⟩;obtain ⟨j,hj,rfl,hR⟩:=hrel;have RX:=hid hR;clear hR;by_cases hlt:j < nd
  ·have hle:(j:Int) < nd:=by omega
   have c1:=RX.out.f.cell id (TC.out j (by have:=ND.out;omega));have s1:=World.block_lt_of_cell? _ _ c1;dsimp only at s1;obtain ⟨_,_,_,_,_,_,_,_,_,_,hd1,_⟩:=HB.out.env.decl j (by have:=ND.out;omega);obtain ⟨_,_,_,_,_,_,_,_,_,_,hd2,_⟩:=HB.out.env.decl f.n (by have:=ND.out;omega);have heq:=eq_ptr106 (a:=⟨E.nm j,0,none⟩) (b:=⟨E.nm f.n,0,none⟩) (RX.out.f.heap id hd1) (RX.out.f.heap id hd2);clear hd1 hd2
   go_wp2_with fail
   refine (HOO.out _ RX.out.f).mono ?_;rintro e w2 ⟨rfl,rfl⟩;by_cases hjn:j=f.n
   ·subst hjn
    have hd:decide ((⟨E.nm f.n,0,none⟩:Addr)=⟨E.nm f.n,0,none⟩)=true:=by simp
    have q3:=zA RX.out.b;have f3:=zC RX.out.b;have s3:=zF RX.out.b
    have NR:=hid (show NmRel w f.n nd (f.n + 1) (w2.setCell ⟨w.heap.size + 1,1,none⟩ (.int .i64 f.n)) from by
     have FC:Fr (fun b=>b=w.heap.size + 1) w2 (w2.setCell ⟨w.heap.size + 1,1,none⟩ (.int .i64 f.n)):=(Fr.refl (fun b=>b=w.heap.size + 1) w2).setCell (p:=⟨w.heap.size + 1,1,none⟩) (.inl rfl) _;refine ⟨RX.out.f.transNew FC (fun x hx=> .inr (by omega)),FC.heap (by omega) RX.out.z,?_⟩;rw [if_pos (by omega)];exact heap_setCell (a:=⟨w.heap.size + 1,1,none⟩) RX.out.b rfl)
    go_wp2;go_roundw
    case rel=>exact ⟨f.n + 1,by omega,by go_num,NR.out⟩
    case measure=>simp [intOf];omega
   ·have hd: ¬(⟨E.nm j,0,none⟩:Addr)=⟨E.nm f.n,0,none⟩:=fun h=>hjn (HB.out.env.injn j f.n (by have:=ND.out;omega) (by have:=ND.out;omega) (by injection h))
    have hd2: ¬E.nm j=E.nm f.n:=fun h=>hd (by rw [h])
    have NR:=hid (show NmRel w f.n nd (j + 1) w2 from ⟨RX.out.f,RX.out.z,by
     have h:=RX.out.b
     have e:(if f.n < j + 1 then (f.n:Int) else -1)=(if f.n < j then (f.n:Int) else -1):=by
      by_cases h1:f.n < j
      ·rw [if_pos h1,if_pos (by omega)]
      ·rw [if_neg h1,if_neg (by omega)]
     rw [e];exact h⟩)
    go_wp2;go_roundw
    case rel=>exact ⟨j + 1,by omega,by go_num,NR.out⟩
    case measure=>simp [intOf];omega
  ·have hjn:j=nd:=by omega
   subst hjn;have hle: ¬(j:Int) < j:=by omega
   have hb:=RX.out.b;rw [if_pos (by omega)] at hb;have B5:=hid hb;clear hb;go_wp2_with fail
   refine (HTT.out _ RX.out.f).mono ?_;rintro e w2 ⟨rfl,rfl⟩;have q:=zA B5.out
   have hnn: ∀w,(binOp .neq 235 (.pointer none) (.pointer none)).run Tryz.prog w= .ok (.bool false) w:=fun w=>by
    have h: ∀d:Nat,(Op.equalIn (d + 1) 235 (.pointer none) (.pointer none)).run Tryz.prog w= .ok true w:=fun d=>by simp [Op.equalIn,Tryz.runUnderlying235]
    simp only [binOp];simp [Op.equal,Op.maxDepth,h 9999]
   have s5:=zF B5.out;go_wp2_with (refine zR rfl _ _ rfl rfl w.heap.size ⟨1,f.n,0,false,none,0,0,⟨#[]⟩⟩ rfl rfl RX.out.z ?_)
   intro WF hWF fWF;have HW:=hid hWF;have FW:=hid (RX.out.f.transNew fWF (fun x hx=> .inr (by omega)));clear hWF fWF;go_wp2;refine bodyPost_ret (ret6 rfl rfl HW.out) rfl ?_;exact ⟨⟨1,f.n,0,false,none,0,0,⟨#[]⟩⟩,rfl,.node _ f [] [] ⟨by rw [HK.out];rfl,by rw [HK.out];decide,by rw [HK.out];decide,by rw [if_pos (.inr (.inl HK.out))],by rw [if_neg (by rw [HK.out];decide)];exact HN.out.c (by rw [HK.out];decide),by rw [if_neg (by rw [HK.out];decide)];exact HN.out.names (by rw [HK.out];decide),rfl,⟨Nat.le_refl _,Nat.zero_le _,Nat.zero_le _⟩⟩ rfl (.inl rfl) (fun i y t h=>by simp at h),FW.out⟩
theorem backNamed_any {E:GEnv}{bb:Nat}{da:Option Addr}{dl dc:Nat}{ar:Nat->Nat}(w:World)(M:Nat->Prop)(hB:BEnv w E bb da dl dc ar)(hM: ∀b,M b->b < w.heap.size)(f:Lab)(a:Nat)(hk:f.kind=1)(hN:Norm f)(hn:f.n < E.nd)(hnd16:E.nd<=16)(lb:Nat)(ta:Option Addr)(tc:Nat)(vs:List Value)(ts:List Tm)
 (HO: ∀w',Fr F0 w w'->Calls Tryz.prog 134 #[.pointer (some ⟨a,0,none⟩)] w' fun e w''=>e= .returned (.pointer (some ⟨E.nm f.n,0,none⟩))/\w''=w') (HT: ∀w',Fr F0 w w'->Calls Tryz.prog 135 #[.pointer (some ⟨a,0,none⟩)] w' fun e w''=>e= .returned (.pointer (some ⟨lb,0,none⟩))/\w''=w')
 (hl:w.heap[lb]?=some (.cells #[.slice ta vs.length tc] 282 (0,0))) (hvl:vs.length=ts.length) (hat:yT w E ta vs) (hif: ∀v∈vs,∃ty pv,v= .iface ty pv) (hlen:ts.length<=1954687338211)
 (IH: ∀(i:Nat) (v:Value) (t:Tm),vs[i]?=some v->ts[i]?=some t-> ∀(M:Nat->Prop) w',Fr F0 w w'->(∀b,M b->b < w'.heap.size)->Calls Tryz.prog 64 #[.pointer (some ⟨bb,0,none⟩),v] w' (yC w' M t)):
 Calls Tryz.prog 97 #[.pointer (some ⟨bb,0,none⟩),.pointer (some ⟨a,0,none⟩)] w (yC w M (.node f ts)):=by
 obtain ⟨na,nc,pa,pc,hbb,hnp,_⟩:=hB.b;obtain ⟨tb,to,rfl,htc⟩:=hnp.resolve_left (by omega);have HB:=hid hB;have BB:=hid hbb;have TC:=hid htc;have HM:=hid hM;have HK:=hid hk;have HN:=hid hN;have HOO:=hid HO;have HTT:=hid HT;obtain ⟨nd,hnd⟩: ∃nd,nd=E.nd:=⟨_,rfl⟩;have ND:=hid hnd;rw [<-hnd] at hn BB;rw [<-hnd] at hnd16;obtain ⟨i0,hi0,hz0,hz1,hz2⟩:=info_parts info26;have HL:=hid hl;have VL:=hid hvl;have AT:=hid hat;have HI:=hid IH;have IF:=hid hif
 obtain ⟨L,hL⟩: ∃L,L=vs.length:=⟨_,rfl⟩;have LL:=hid hL;rw [<-hL] at HL;have hLb:L<=1954687338211:=by omega
 clear hB hbb htc hnp hM hk hN HO HT hnd hl hvl hat IH hif hL hlen;go_enter Tryz.func97,Tryz.ntmps97;go_wp2_with (refine zR rfl _ _ rfl rfl (w.heap.size + 1) ⟨1,-1,0,false,none,0,0,⟨#[]⟩⟩ rfl rfl (zS w (.cells yK 26) (.cells yK 26)) ?_)
 intro W1 hW fW
 have R0:=hid (show NmRel w f.n nd 0 W1 from by
  have f2:Fr F0 w ((w.alloc (.cells yK 26)).alloc (.cells yK 26)):=((Fr.refl F0 w).alloc _).alloc _;have z2:((w.alloc (.cells yK 26)).alloc (.cells yK 26)).heap[w.heap.size]?=some (.cells yK 26 (0,0)):=((Fr.refl F0 _).alloc (.cells yK 26)).heap id (heap_alloc_new w (.cells yK 26));exact ⟨f2.transNew fW (fun x hx=> .inr (by omega)),fW.heap (by omega) z2,by rw [if_neg (by omega)];exact hW⟩)
 have qb:=zA (R0.out.f.heap id BB.out);have sb:=zF (R0.out.f.heap id BB.out);clear hW fW;go_wp2_with fail
 clear qb sb;go_loopw [6,7,16] (fun _ _ i wr=> ∃j:Nat,j<=nd/\i= .int .i64 j/\NmRel w f.n nd j wr) (fun _ _ i _=>nd - (intOf i).toNat)
 case atStart=>exact ⟨0,Nat.zero_le _,rfl,R0.out⟩
 case round=>
  obtain ⟨WX,rfl⟩: ∃WX:World,WX=wr:=⟨wr,rfl⟩;obtain ⟨j,hj,rfl,hR⟩:=hrel;have RX:=hid hR;clear hR;by_cases hlt:j < nd
  ·have hle:(j:Int) < nd:=by omega
   have c1:=RX.out.f.cell id (TC.out j (by have:=ND.out;omega));have s1:=World.block_lt_of_cell? _ _ c1;dsimp only at s1;obtain ⟨_,_,_,_,_,_,_,_,_,_,hd1,_⟩:=HB.out.env.decl j (by have:=ND.out;omega);obtain ⟨_,_,_,_,_,_,_,_,_,_,hd2,_⟩:=HB.out.env.decl f.n (by have:=ND.out;omega);have heq:=eq_ptr106 (a:=⟨E.nm j,0,none⟩) (b:=⟨E.nm f.n,0,none⟩) (RX.out.f.heap id hd1) (RX.out.f.heap id hd2);clear hd1 hd2
   go_wp2_with fail
   refine (HOO.out _ RX.out.f).mono ?_;rintro e w2 ⟨rfl,rfl⟩;by_cases hjn:j=f.n
   ·subst hjn
    have hd:decide ((⟨E.nm f.n,0,none⟩:Addr)=⟨E.nm f.n,0,none⟩)=true:=by simp
    have q3:=zA RX.out.b;have f3:=zC RX.out.b;have s3:=zF RX.out.b
    have NR:=hid (show NmRel w f.n nd (f.n + 1) (w2.setCell ⟨w.heap.size + 1,1,none⟩ (.int .i64 f.n)) from by
     have FC:Fr (fun b=>b=w.heap.size + 1) w2 (w2.setCell ⟨w.heap.size + 1,1,none⟩ (.int .i64 f.n)):=(Fr.refl (fun b=>b=w.heap.size + 1) w2).setCell (p:=⟨w.heap.size + 1,1,none⟩) (.inl rfl) _;refine ⟨RX.out.f.transNew FC (fun x hx=> .inr (by omega)),FC.heap (by omega) RX.out.z,?_⟩;rw [if_pos (by omega)];exact heap_setCell (a:=⟨w.heap.size + 1,1,none⟩) RX.out.b rfl)
    go_wp2;go_roundw
    case rel=>exact ⟨f.n + 1,by omega,by go_num,NR.out⟩
    case measure=>simp [intOf];omega
   ·have hd: ¬(⟨E.nm j,0,none⟩:Addr)=⟨E.nm f.n,0,none⟩:=fun h=>hjn (HB.out.env.injn j f.n (by have:=ND.out;omega) (by have:=ND.out;omega) (by injection h))
    have hd2: ¬E.nm j=E.nm f.n:=fun h=>hd (by rw [h])
    have NR:=hid (show NmRel w f.n nd (j + 1) w2 from ⟨RX.out.f,RX.out.z,by
     have h:=RX.out.b
     have e:(if f.n < j + 1 then (f.n:Int) else -1)=(if f.n < j then (f.n:Int) else -1):=by
      by_cases h1:f.n < j
      ·rw [if_pos h1,if_pos (by omega)]
      ·rw [if_neg h1,if_neg (by omega)]
     rw [e];exact h⟩)
    go_wp2;go_roundw
    case rel=>exact ⟨j + 1,by omega,by go_num,NR.out⟩
    case measure=>simp [intOf];omega
  ·have hjn:j=nd:=by omega
   subst hjn;have hle: ¬(j:Int) < j:=by omega
   have hb:=RX.out.b;rw [if_pos (by omega)] at hb;have B5:=hid hb;clear hb;go_wp2_with fail
   refine (HTT.out _ RX.out.f).mono ?_;rintro e w2 ⟨rfl,rfl⟩
   have hnn: ∀w,(binOp .neq 235 (.pointer (some ⟨lb,0,none⟩)) (.pointer none)).run Tryz.prog w= .ok (.bool true) w:=fun w=>by
    have h: ∀d:Nat,(Op.equalIn (d + 1) 235 (.pointer (some ⟨lb,0,none⟩)) (.pointer none)).run Tryz.prog w= .ok false w:=fun d=>by simp [Op.equalIn,Tryz.runUnderlying235]
    simp only [binOp];simp [Op.equal,Op.maxDepth,h 9999]
   go_wp2_with fail
   refine (tlLen_any _ _ _ _ _ (RX.out.f.heap id HL.out)).mono ?_;rintro e w3 ⟨rfl,rfl⟩;clear hnn;go_wp2_with fail
   go_loopw [9,34] (fun _ i wr=> ∃(j:Nat) (ov:Value) (rs:List TyV),j<=L/\i= .int .i64 j/\Fr F0 w wr/\wr.heap[w.heap.size]?=some (.cells yK 26 (0,0))/\wr.heap[w.heap.size + 1]?=some (.cells #[.int .i64 1,.int .i64 f.n,.int .i64 0,.bool false,ov,.string ⟨#[]⟩] 26 (0,0))/\BRow wr (fun b=>M b\/b=w.heap.size\/b=w.heap.size + 1) (w.heap.size + 2) ov j rs ts) (fun _ i _=>L - (intOf i).toNat)
   case atStart=>exact ⟨0,_,[],Nat.zero_le _,rfl,RX.out.f,RX.out.z,B5.out,BRow.start _ _ _ _⟩
   case round=>
    obtain ⟨WY,rfl⟩: ∃WY:World,WY=wr:=⟨wr,rfl⟩;obtain ⟨k,ov,rs,hk2,rfl,hF,hZ,hB5,hR5⟩:=hrel;have FY:=hid hF;have ZY:=hid hZ;have BY:=hid hB5;have RY:=hid hR5;clear hF hZ hB5 hR5
    have AB:=hid (show ∀b,(M b∨b=w.heap.size∨b=w.heap.size + 1)→b < w.heap.size + 2 from fun b hb=>by
     rcases hb with hb | hb | hb
     ·have:=HM.out b hb;omega
     ·omega
     ·omega)
    by_cases hlt2:k < L
    ·have hle2:(k:Int) < L:=by omega
     obtain ⟨v,hv⟩: ∃v,vs[k]?=some v:=⟨vs[k]'(by have:=LL.out;omega),by simp⟩;obtain ⟨t,ht⟩: ∃t,ts[k]?=some t:=⟨ts[k]'(by have:=LL.out;have:=VL.out;omega),by simp⟩;obtain ⟨b,off,rfl,_,_,hcc⟩:=AT.out.resolve_left (fun h=>by have:=LL.out;rw [h] at this;simp at this;omega);obtain ⟨ty,pv,rfl⟩:=IF.out v (List.mem_of_getElem? hv);have HV:=hid hv;have HTk:=hid ht;have CC:=hid (hcc k _ hv);have nB: ¬ov.ownBlock=some (w.heap.size + 1):=fun h=>by have h1:=(World.ownsRow.lt RY.out.own _ h).1;omega
     have nZ: ¬ov.ownBlock=some w.heap.size:=fun h=>by have h1:=(World.ownsRow.lt RY.out.own _ h).1;omega
     have NB:=hid nB;have NZ:=hid nZ;clear nB nZ hv ht hcc;go_wp2_with fail
     refine zG (Fr (fun b=>ov.ownBlock=some b) WY) [(0,true),(1,true),(2,true),(3,true),(4,true),(5,false),(6,false),(7,false),(8,false),(9,false),(10,false)] [9,10] yE (by kernel_rfl) (by kernel_rfl) (by kernel_rfl) (by decide) ?_
     iterate 5
      (refine zH _ rfl (Fr.refl _ _).drew (fun w' hS=>by
       have q0:=zA (hS.heap NB.out BY.out);have s0:=zF (hS.heap NB.out BY.out);clear hS;go_simp;rfl) ?_)
     go_simp;refine zB rfl ?_;have F0D:=hid ((Fr.refl F0 WY).drew);go_wp2_with fail
     refine (tlAt_any _ lb b off L tc k _ hlt2 ((FY.out.trans F0D.out).heap id HL.out) ((FY.out.trans F0D.out).cell id CC.out)).mono ?_;rintro e w4 ⟨rfl,rfl⟩;go_wp2;refine And.intro (fun _=>(Fr.refl _ _).drew) ?_;refine zB rfl ?_
     have hMX: ∀b,((M b∨b=w.heap.size∨b=w.heap.size + 1)∨ov.ownBlock=some b)→b < WY.drew.heap.size:=fun b hb=>by
      rcases hb with hb | hb
      ·have h1:=AB.out b hb;have h2:=zF BY.out;show b < WY.heap.size;omega
      ·exact (World.ownsRow.lt RY.out.own _ hb).2
     have MX:=hid hMX;clear hMX;go_wp2_with fail
     refine (HI.out k _ t HV.out HTk.out (fun b=>(M b\/b=w.heap.size\/b=w.heap.size + 1)\/ov.ownBlock=some b) _ (FY.out.trans F0D.out) MX.out).mono ?_;rintro e w5 ⟨r,rfl,hr,hf5⟩;have R5:=hid hr;have F5:=hid (F0D.out.trans hf5);clear hr hf5;unfold TyV.val;go_wp2;refine And.intro (fun _=>F5.out.sub) ?_;refine zB rfl ?_;go_wp2;refine And.intro (fun _=>F5.out.sub.alloc _) ?_;refine zB rfl ?_;have OA:=hid ((zV RY.out.own F5.out (fun _ _ h=>h)).alloc (.cells #[.int .i64 r.k,.int .i64 r.n,.int .i64 r.c,.bool r.v,.slice r.a r.len r.cap,.string r.nm] 26))
     have hrl:=RY.out.len;have N63:=hid (show rs.length + 1<=maxLen by unfold maxLen;omega);have N72:=hid (show (rs.length + 1) * 72<=140737488355328 by omega);have SZ2:=hid (show w.heap.size + 2<=(w5.alloc (.cells #[.int .i64 r.k,.int .i64 r.n,.int .i64 r.c,.bool r.v,.slice r.a r.len r.cap,.string r.nm] 26)).heap.size by have h1:=zF BY.out;have h2:=F5.out.size;simp;omega);refine wpList_append_lies _ rfl _ _ 24 rfl (w.heap.size + 2) 26 i0 _ 6 72 Tryz.underlying24 hi0 hz0 hz1 hz2 rfl (by omega) ov rs.length (rs.flatMap zW) (by rfl) OA.out ⟨w5.heap.size,0,none⟩ 1 1 (zW r) (by rfl) (by rfl) (World.news_of_block (cs:= #[.int .i64 r.k,.int .i64 r.n,.int .i64 r.c,.bool r.v,.slice r.a r.len r.cap,.string r.nm]) (t:=26) (fr:=(0,0)) (heap_alloc_new w5 _)) (by simp [zW,Value.oneCell']) (by omega) N63.out N72.out SZ2.out (w5.heap.size + 1) (by simp) ?_
     intro g cap w6 hown6 hgrow hg1 hg2;have F56:Fr (fun b=>ov.ownBlock=some b) w5 w6:=(Fr.alloc (Fr.refl _ w5) _).trans (Fr.of_grown hgrow);have F6:=hid (F5.out.sub.trans F56);rw [hrl] at hown6
     have hown7:OwnT w6 (w.heap.size + 2) (.slice (some ⟨g,0,none⟩) (k + 1) cap) (rs ++ [r]):=by
      unfold OwnT;rw [List.length_append,hrl,List.flatMap_append];simpa using hown6
     have B6:=hid (F6.out.heap NB.out BY.out);have NEXT:=hid (BRow.next RY.out F5.out HTk.out R5.out F56 hown7 (by rcases hg1 with h | h;exact .inl h;exact .inr (by omega)));have OW:=hid (World.ownsRow.lt RY.out.own);have Z6:=hid (F6.out.heap NZ.out ZY.out);clear F56 hown6 hown7 hgrow hg1 hg2;rw [hrl];go_wp2;refine And.intro (fun _=>F6.out) ?_;refine zB rfl ?_;go_wp2;refine And.intro (fun h=>absurd h (by decide)) ?_
     refine zB rfl ?_;have q3:=zA B6.out;have f3:=zC B6.out;have s3:=zF B6.out;go_wp2;refine And.intro (fun h=>absurd h (by decide)) ?_;refine zO (NoPanic.normal ?_);clear q3 f3 s3;have FC:Fr (fun b=>b=w.heap.size + 1) w6 (w6.setCell ⟨w.heap.size + 1,4,none⟩ (.slice (some ⟨g,0,none⟩) (k + 1) cap)):=(Fr.refl (fun b=>b=w.heap.size + 1) w6).setCell (p:=⟨w.heap.size + 1,4,none⟩) (.inl rfl) _;have X1:=hid (show Fr F0 w (w6.setCell ⟨w.heap.size + 1,4,none⟩ (.slice (some ⟨g,0,none⟩) (k + 1) cap)) from (FY.out.transNew F6.out (fun b hb=> .inr (by have:=(OW.out b hb).1;omega))).transNew FC (fun x hx=> .inr (by omega)))
     have X2:=hid (FC.heap (by omega) Z6.out);have X3:=hid (heap_setCell (a:=⟨w.heap.size + 1,4,none⟩) (v:= .slice (some ⟨g,0,none⟩) (k + 1) cap) B6.out rfl);have X4:=hid (NEXT.out.keep (FC.mono fun b _ hb=> .inr (.inr hb)) AB.out);clear FC;go_wp2;go_roundw
     case rel=>exact ⟨k + 1,_,_,by omega,by go_num,X1.out,X2.out,X3.out,X4.out⟩
     case measure=>simp [intOf];omega
    ·have hkL:k=L:=by omega
     subst hkL;have hle2: ¬(k:Int) < k:=by omega
     obtain ⟨ea,ec,hov,hel,hc1,hc2,hrt⟩:=RY.out.fin AB.out;subst hov;have EL:=hid hel;have RT5:=hid hrt;have hrl:=hid RY.out.len;clear hel hrt;have q:=zA BY.out;have s5:=zF BY.out;go_wp2_with (refine zR rfl _ _ rfl rfl w.heap.size ⟨1,f.n,0,false,ea,k,ec,⟨#[]⟩⟩ rfl rfl ZY.out ?_)
     intro WF hWF fWF;have HW:=hid hWF;have FW:=hid (FY.out.transNew fWF (fun x hx=> .inr (by omega)));have FM:=hid (fWF.mono (M':=fun b=>M b\/b=w.heap.size\/b=w.heap.size + 1) fun b _ hb=> .inr (.inl hb));clear hWF fWF;go_wp2;refine bodyPost_ret (ret6 rfl rfl HW.out) rfl ?_;refine ⟨⟨1,f.n,0,false,ea,k,ec,⟨#[]⟩⟩,rfl,.node _ f rs ts ⟨by rw [HK.out];rfl,by rw [HK.out];decide,by rw [HK.out];decide,by rw [if_pos (.inr (.inl HK.out))],by rw [if_neg (by rw [HK.out];decide)];exact HN.out.c (by rw [HK.out];decide),by rw [if_neg (by rw [HK.out];decide)];exact HN.out.names (by rw [HK.out];decide),hrl.out,⟨hc1,hLb,hc2⟩⟩ (by rw [hrl.out,LL.out,VL.out]) ?_ (fun i y t h1 h2=>((RT5.out i y t h1 h2).keep FM.out).mono fun b hb=> .inl hb),FW.out⟩
     rcases EL.out.keep FM.out with h | ⟨b,off,h1,h2⟩
     ·exact .inl h
     ·exact .inr ⟨b,off,h1,fun i y hy=>⟨fun hm=>(h2 i y hy).m (.inl hm),(h2 i y hy).c0,(h2 i y hy).c1,(h2 i y hy).c2,(h2 i y hy).c3,(h2 i y hy).c4,(h2 i y hy).c5⟩⟩
end Go.Proofs.YtpekidjfbinekaaGreatDoor
