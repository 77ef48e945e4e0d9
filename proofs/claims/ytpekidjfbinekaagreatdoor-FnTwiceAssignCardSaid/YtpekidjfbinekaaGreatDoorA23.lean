/- I8, J0 -/
import Derived.Test.YtpekidjfbinekaaGreatDoorA22
set_option maxRecDepth 100000
set_option maxHeartbeats 60000000
set_option linter.all false
namespace Go.Proofs.YtpekidjfbinekaaGreatDoor
open Go.RowKit Uni
def ptrs (l:List Nat):List Value:=l.map fun b=> .pointer (some ⟨b,0,none⟩)
structure PRow (w:World) (B:Nat) (e:TypeId) (o:Value) (j:Nat) (bs:List Nat):Prop where
 len:bs.length=j
 own:w.ownsRow B e 1 o j (ptrs bs)
 lt: ∀b∈bs,B<=b/\b < w.heap.size
 nd:bs.Nodup
 nil:j=0->o= .slice none 0 0
theorem PRow.start (w:World)(B:Nat)(e:TypeId):PRow w B e (.slice none 0 0) 0 []:=⟨rfl,World.ownsRow_nil _ _ _ _,fun b h=>(by cases h),List.nodup_nil,fun _=>rfl⟩
theorem PRow.keep {w w':World}{M:Nat->Prop}{B:Nat}{e:TypeId}{o:Value}{j:Nat}{bs:List Nat}(h:PRow w B e o j bs)(f:Fr M w w')(hM: ∀g,o.ownBlock=some g-> ¬M g):PRow w' B e o j bs:=
 ⟨h.len,zV h.own f hM,fun b hb=>⟨(h.lt b hb).1,Nat.lt_of_lt_of_le (h.lt b hb).2 f.size⟩,h.nd,h.nil⟩
theorem PRow.next {w w2 w3:World}{B:Nat}{e:TypeId}{o o':Value}{j:Nat}{bs:List Nat}{b:Nat}(h:PRow w B e o j bs)(hB:B<=w.heap.size)(hb:w.heap.size<=b)(hb2:b < w2.heap.size)(f:w2.heap.size<=w3.heap.size)
 (hown:w3.ownsRow B e 1 o' (j + 1) (ptrs bs ++ [.pointer (some ⟨b,0,none⟩)])):PRow w3 B e o' (j + 1) (bs ++ [b]):=by
 refine ⟨by simp [h.len],by simpa [ptrs] using hown,fun x hx=> ?_,?_,fun h=>absurd h (by omega)⟩
 ·rcases List.mem_append.1 hx with hx | hx
  ·have:=h.lt x hx
   exact ⟨this.1,by omega⟩
  ·have:x=b:=by simpa using hx
   subst this;exact ⟨by omega,by omega⟩
 ·rw [List.nodup_append]
  refine ⟨h.nd,by simp,fun x hx y hy=> ?_⟩;have hy':y=b:=by simpa using hy
  subst hy';have:=(h.lt x hx).2;omega
theorem under92b:Tryz.prog.underlying 92=some (.slice 95):=by kernel_rfl
theorem info95b:(Tryz.prog.info? 95).map (fun i=>(i.zero,i.size,i.bytes))=some (some (.pointer none),1,8):=by kernel_rfl
theorem under91b:Tryz.prog.underlying 91=some (.slice 106):=by kernel_rfl
theorem info106b:(Tryz.prog.info? 106).map (fun i=>(i.zero,i.size,i.bytes))=some (some (.pointer none),1,8):=by kernel_rfl
structure Tps (w wr:World) (dv:Value) (o:Value) (j:Nat) (bs:List Nat):Prop where
 f:Fr F0 w wr
 sz:w.heap.size + 2<=wr.heap.size
 b:wr.heap[w.heap.size + 1]?=some (.cells #[dv,.pointer (some ⟨w.heap.size,0,none⟩),.slice none 0 0,o] 94 (0,0))
 p:wr.heap[w.heap.size]?=some (.cells #[.string ⟨#[112]⟩,.string ⟨#[112]⟩] 117 (0,0))
 r:PRow wr (w.heap.size + 2) 95 o j bs
 c: ∀b∈bs,∃c,wr.heap[b]?=some (.cells c 192 (0,0))
def mkE (n:Nat)(pk:Value)(D:zE)(tps nms obs:List Nat)(A:Nat→Prop):GEnv where
 n:=n
 tp:=fun p=>⟨tps.getD p 0,0,none⟩
 nd:=nms.length
 nm:=fun k=>nms.getD k 0
 ob:=fun k=>obs.getD k 0
 D:=D
 pk:=pk
 A:=A
theorem PT.grow {w:World}{E E':GEnv}(h1:E'.n=E.n)(h2:E'.tp=E.tp)(h3:E.nd<=E'.nd)(h4: ∀k,k < E.nd->E'.nm k=E.nm k)(h5:E'.D=E.D)(h6:E'.pk=E.pk)(h7:E'.A=E.A){v:Value}{t:Tm}(h:PT w E v t):PT w E' v t:=by
 have hV: ∀ {a:Option Addr} {vs:List Value} {nms:List (List UInt8)},xJ w E a vs nms→xJ w E' a vs nms:=fun {a vs nms} h=>by
  unfold xJ at h ⊢;rw [h6,h7];exact h
 have hT: ∀ {pv:Value} {vs:List Value},yZ w E pv vs→yZ w E' pv vs:=fun {pv vs} h=>by
  unfold yZ at h ⊢;rcases h with h | ⟨b,va,vc,h8,h9,h10,h11,h12,h13,h14⟩
  ·exact .inl h
  ·exact .inr ⟨b,va,vc,h8,h9,by rw [h7];exact h10,h11,h12,h13,hV h14⟩
 have hTy: ∀ {a:Option Addr} {vs:List Value},yT w E a vs→yT w E' a vs:=fun {a vs} h=>by
  unfold yT at h ⊢;rw [h7];exact h
 have nA: ∀ {b:Nat},¬E.A b-> ¬E'.A b:=fun {b} h=>by rw [h7];exact h
 induction h with
 |var p h=>have:=PT.var (w:=w) (E:=E') p (by rw [h1];exact h);rw [h2] at this;exact this
 |basic l a i nm k1 k2 k3 k4=>exact .basic l a i nm k1 k2 (nA k3) k4
 |ptr l a v t k1 k2 k3 k4 _ ih=>exact .ptr l a v t k1 k2 (nA k3) k4 ih
 |slice l a v t k1 k2 k3 k4 _ ih=>exact .slice l a v t k1 k2 (nA k3) k4 ih
 |array l a v t k1 k2 k3 k4 _ ih=>exact .array l a v t k1 k2 (nA k3) k4 ih
 |map l a v v' t t' k1 k2 k3 k4 _ _ ih ih'=>exact .map l a v v' t t' k1 k2 (nA k3) k4 ih ih'
 |chan l a v t k1 k2 k3 k4 _ ih=>exact .chan l a v t k1 k2 (nA k3) k4 ih
 |struct l a fa fc vs ts k1 k2 kn k3 k4 k5 k6 k7 k8 _ ih=>exact .struct l a fa fc vs ts k1 k2 kn (nA k3) k4 k5 k6 k7 (hV k8) ih
 |func l a pp rp vs ts k1 k2 kn k3 k4 k5 k6 k7 _ ih=>exact .func l a pp rp vs ts k1 k2 kn (nA k3) k4 k5 (hT k6) (hT k7) ih
 |named0 l c0 c1 c2 c4 c5 u c9 c10 st k1 k2 k3 k4 k5 k6 _ ih=>
  have e:=h4 l.n k3;have:=PT.named0 (w:=w) (E:=E') l c0 c1 c2 c4 c5 u c9 c10 st k1 k2 (Nat.lt_of_lt_of_le k3 h3) (by rw [e];exact nA k4) (by rw [e];exact k5) k6 (by rw [h5];exact ih);rw [e] at this;exact this
 |named l a ib lb ta tc c0 c1 c2 c4 c5 u c9 c10 st vs ts k1 k2 k3 kne k4 k5 k6 k7 k8 k9 k10 k11 k12 k13 k14 _ _ ih ih'=>
  exact .named l a ib lb ta tc c0 c1 c2 c4 c5 u c9 c10 st vs ts k1 k2 (Nat.lt_of_lt_of_le k3 h3) kne (nA k4) k5 k6 (nA k7) (by rw [h4 l.n k3];exact k8) (nA k9) k10 k11 k12 k13 (hTy k14) ih (by rw [h5];exact ih')
def TabOk (w:World):Prop:= ∀c:Nat,65<=c->c<=90-> ∃v,w.cell? ⟨0,c,none⟩=some (.int .u8 v)
theorem TabOk.keep {w w':World}(h:TabOk w)(f:Fr F0 w w'):TabOk w':=fun c h1 h2=>(h c h1 h2).imp fun _ hv=>f.cell id hv
theorem TabOk.pos {w:World}(h:TabOk w):0 < w.heap.size:=by
 obtain ⟨v,hv⟩:=h 65 (by decide) (by decide);exact World.block_lt_of_cell? _ _ hv
def DA (B:Nat)(o:Value):Nat->Prop:=fun b=>b=B + 1\/o.ownBlock=some b
structure Dcs (w wr:World) (da:Option Addr) (dl dc n:Nat) (D:zE) (ar:Nat→Nat) (tpo o:Value) (tps nms obs:List Nat) (i:Nat):Prop where
 f:Fr F0 w wr
 b:wr.heap[w.heap.size + 1]?=some (.cells #[.slice da dl dc,.pointer (some ⟨w.heap.size,0,none⟩),o,tpo] 94 (0,0))
 p:wr.heap[w.heap.size]?=some (.cells #[.string ⟨#[112]⟩,.string ⟨#[112]⟩] 117 (0,0))
 tp:PRow wr (w.heap.size + 2) 95 tpo n tps
 tc: ∀b∈tps,∃c,wr.heap[b]?=some (.cells c 192 (0,0))
 nm:PRow wr (w.heap.size + 2) 106 o i nms
 obl:obs.length=i
 obn:obs.Nodup
 obb: ∀b∈obs,w.heap.size + 2<=b/\b < wr.heap.size
 dcl: ∀(k a b:Nat),nms[k]?=some a→obs[k]?=some b→(∃c0 c2 c4 c5 c6 c7 u c9 c10,wr.heap[a]?=some (.cells #[c0,.pointer (some ⟨b,0,none⟩),c2,.pointer none,c4,c5,c6,c7,u,c9,c10] 171 (0,0)))∧
  ∃ns t3,wr.heap[b]?=some (.cells #[.int .i64 0,.pointer (some ⟨w.heap.size,0,none⟩),.string ns,t3] 194 (0,0))
 d0: ∀(k a:Nat),nms[k]?=some a->ar k=0->PT wr (mkE n (.pointer (some ⟨w.heap.size,0,none⟩)) D tps nms obs (DA w.heap.size o)) (.iface 106 (.pointer (some ⟨a,0,none⟩))) (.node (namedLab k) [])
theorem PRow.notOwn {w:World}{B:Nat}{e:TypeId}{o:Value}{j:Nat}{bs:List Nat}(h:PRow w B e o j bs){x:Nat}{c:Array Value}{t:TypeId}(hx:w.heap[x]?=some (.cells c t (0,0)))(ht:t≠e): ¬o.ownBlock=some x:=fun ho=>by
 rcases (wB h.own).2 with ⟨_,rfl⟩ | ⟨g',_,rfl,_,_,_,⟨cs,hcs⟩,_⟩
 ·cases ho
 ·cases ho
  rw [hcs] at hx;injection hx with hx
  injection hx with h1 h2 h3
  exact ht h2.symm
theorem xX {l:List Nat}{k a:Nat}(h:l[k]?=some a):l.getD k 0=a:=by rw [List.getD_eq_getElem?_getD,h];rfl
theorem wP {l:List Nat}{k n:Nat}(hl:l.length=n)(hk:k < n): ∃a,l[k]?=some a:=⟨l[k]'(by omega),by simp⟩
theorem nodup_get {l:List Nat}(h:l.Nodup){i j a:Nat}(hi:l[i]?=some a)(hj:l[j]?=some a):i=j:=by
 have h1:=(List.getElem?_eq_some_iff.1 hi).1;have h2:=(List.getElem?_eq_some_iff.1 hj).1;have e1:=(List.getElem?_eq_some_iff.1 hi).2;have e2:=(List.getElem?_eq_some_iff.1 hj).2;have key:=List.pairwise_iff_getElem.1 h;rcases Nat.lt_trichotomy i j with h3 | h3 | h3
 ·exact absurd (e1.trans e2.symm) (key i j h1 h2 h3)
 ·exact h3
 ·exact absurd (e2.trans e1.symm) (key j i h2 h1 h3)
theorem Dcs.benv {w wr:World}{da:Option Addr}{dl dc n:Nat}{D:zE}{ar:Nat->Nat}{tpo o:Value}{tps nms obs:List Nat}{i:Nat}(h:Dcs w wr da dl dc n D ar tpo o tps nms obs i)(ht:TabOk w)(hd:DRep w F0 da dl D ar)(hn:n<=8):
 BEnv wr (mkE n (.pointer (some ⟨w.heap.size,0,none⟩)) D tps nms obs (DA w.heap.size o)) (w.heap.size + 1) da dl dc ar:=by
 have hown: ∀ {x:Nat},o.ownBlock=some x->w.heap.size + 2<=x/\x < wr.heap.size:=fun {x} hx=>World.ownsRow.lt h.nm.own _ hx
 have hbb:=zF h.b;refine ⟨⟨⟨fun p hp=> ?_,fun p q hp hq he=> ?_⟩,fun p hp=>⟨rfl,rfl,?_⟩,fun k hk=> ?_,fun k j hk hj he=> ?_,fun k j hk hj he=> ?_,fun b hb=> ?_,fun hb=> ?_,ht.keep h.f,?_⟩,?_,hd.keep h.f,?_,fun k hk=> ?_,fun k hk ha=> ?_,hn⟩
 ·obtain ⟨a,ha⟩:=wP h.tp.len hp
  obtain ⟨c,hc⟩:=h.tc a (List.mem_of_getElem? ha);refine ⟨c,192,?_⟩;show wr.heap[tps.getD p 0]?=_;rw [xX ha];exact hc
 ·obtain ⟨a,ha⟩:=wP h.tp.len hp
  obtain ⟨b,hb⟩:=wP h.tp.len hq;have he':tps.getD p 0=tps.getD q 0:=by injection he
  rw [xX ha,xX hb] at he';subst he';exact nodup_get h.tp.nd ha hb
 ·obtain ⟨a,ha⟩:=wP h.tp.len hp
  obtain ⟨c,hc⟩:=h.tc a (List.mem_of_getElem? ha);show ¬DA w.heap.size o (tps.getD p 0);rw [xX ha];have:=(h.tp.lt a (List.mem_of_getElem? ha)).1;rintro (h1 | h1)
  ·omega
  ·exact h.nm.notOwn hc (by decide) h1
 ·have hk':k < nms.length:=hk
  obtain ⟨a,ha⟩:=wP rfl hk';obtain ⟨b,hb⟩:=wP (h.obl.trans h.nm.len.symm) hk';obtain ⟨⟨c0,c2,c4,c5,c6,c7,u,c9,c10,h1⟩,ns,t3,h2⟩:=h.dcl k a b ha hb;have hA1:=(h.nm.lt a (List.mem_of_getElem? ha)).1;have hB1:=(h.obb b (List.mem_of_getElem? hb)).1;show ¬DA w.heap.size o (nms.getD k 0)/\ ∃c0 c2 c4 c5 c6 c7 u c9 c10,wr.heap[nms.getD k 0]?=some (.cells #[c0,.pointer (some ⟨obs.getD k 0,0,none⟩),c2,.pointer none,c4,c5,c6,c7,u,c9,c10] 171 (0,0))/\ ¬DA w.heap.size o (obs.getD k 0)/\ ∃c t,wr.heap[obs.getD k 0]?=some (.cells c t (0,0))
  rw [xX ha,xX hb];refine ⟨?_,c0,c2,c4,c5,c6,c7,u,c9,c10,h1,?_,_,_,h2⟩
  ·rintro (h3 | h3)
   ·omega
   ·exact h.nm.notOwn h1 (by decide) h3
  ·rintro (h3 | h3)
   ·omega
   ·exact h.nm.notOwn h2 (by decide) h3
 ·have hk':k < nms.length:=hk
  have hj':j < nms.length:=hj;obtain ⟨a,ha⟩:=wP (h.obl.trans h.nm.len.symm) hk';obtain ⟨b,hb⟩:=wP (h.obl.trans h.nm.len.symm) hj';have he':obs.getD k 0=obs.getD j 0:=he;rw [xX ha,xX hb] at he';subst he';exact nodup_get h.obn ha hb
 ·have hk':k < nms.length:=hk
  have hj':j < nms.length:=hj;obtain ⟨a,ha⟩:=wP rfl hk';obtain ⟨b,hb⟩:=wP rfl hj';have he':nms.getD k 0=nms.getD j 0:=he;rw [xX ha,xX hb] at he';subst he';exact nodup_get h.nm.nd ha hb
 ·rcases hb with hb | hb
  ·subst hb;exact hbb
  ·exact (hown hb).2
 ·rcases hb with hb | hb
  ·omega
  ·have:=(hown hb).1;omega
 ·refine ⟨w.heap.size,_,_,⟨#[112]⟩,rfl,?_,h.p,rfl⟩
  rintro (h1 | h1)
  ·omega
  ·have:=(hown h1).1;omega
 ·exact ⟨w.heap.size,_,_,⟨#[112]⟩,rfl,h.p,rfl,by decide⟩
 ·have hti: ∃ta tc,tpo= .slice ta n tc∧(n=0∨ ∃b o,ta=some ⟨b,o,none⟩∧ ∀p,p < n→wr.cell? ⟨b,o + p,none⟩=some (.pointer (some ⟨tps.getD p 0,0,none⟩))):=by
   rcases (wB h.tp.own).2 with ⟨h1,rfl⟩ | ⟨g,cap,rfl,_,_,_,_,hce⟩
   ·have h0:n=0:=by
     have:=h.tp.len;unfold ptrs at h1;rw [List.map_eq_nil_iff] at h1;rw [h1] at this;exact this.symm
    subst h0;exact ⟨_,_,rfl,.inl rfl⟩
   ·refine ⟨_,cap,rfl,.inr ⟨g,0,rfl,fun p hp=> ?_⟩⟩
    obtain ⟨a,ha⟩:=wP h.tp.len hp;rw [xX ha];exact hce p _ (by unfold ptrs;rw [List.getElem?_map,ha];rfl)
  have hni: ∃na nc,o= .slice na nms.length nc∧(nms.length=0∨ ∃b o,na=some ⟨b,o,none⟩∧ ∀p,p < nms.length→wr.cell? ⟨b,o + p,none⟩=some (.pointer (some ⟨nms.getD p 0,0,none⟩))):=by
   rcases (wB h.nm.own).2 with ⟨h1,rfl⟩ | ⟨g,cap,rfl,_,_,_,_,hce⟩
   ·have h0:nms= []:=by
     unfold ptrs at h1;rw [List.map_eq_nil_iff] at h1;exact h1
    subst h0;exact ⟨_,_,rfl,.inl rfl⟩
   ·rw [h.nm.len]
    refine ⟨_,cap,rfl,.inr ⟨g,0,rfl,fun p hp=> ?_⟩⟩;obtain ⟨a,ha⟩:=wP h.nm.len hp;rw [xX ha];exact hce p _ (by unfold ptrs;rw [List.getElem?_map,ha];rfl)
  obtain ⟨ta,tc,h1,h2⟩:=hti;obtain ⟨na,nc,h3,h4⟩:=hni;have hb:=h.b;subst h1;rw [h3] at hb;exact ⟨na,nc,ta,tc,hb,h4,h2⟩
 ·have hk':k < nms.length:=hk
  obtain ⟨a,ha⟩:=wP rfl hk';obtain ⟨b,hb⟩:=wP (h.obl.trans h.nm.len.symm) hk';obtain ⟨_,ns,t3,h2⟩:=h.dcl k a b ha hb;show ∃ns t3,wr.heap[obs.getD k 0]?=_;rw [xX hb];exact ⟨ns,t3,h2⟩
 ·have hk':k < nms.length:=hk
  obtain ⟨a,ha'⟩:=wP rfl hk';show PT wr _ (.iface 106 (.pointer (some ⟨nms.getD k 0,0,none⟩))) _;rw [xX ha'];exact h.d0 k a ha' ha
theorem Dcs.next {w WY w5 w6:World}{da:Option Addr}{dl dc n:Nat}{D:zE}{ar:Nat->Nat}{tpo o:Value}{tps nms obs:List Nat}{k g cap:Nat}(h:Dcs w WY da dl dc n D ar tpo o tps nms obs k)(f5:Fr F0 WY w5){nb ob:Nat}(hob:WY.heap.size<=ob)(hnb:WY.heap.size<=nb){ns:ByteArray}{t3 c2 c4 c5 c6 uv c9 c10:Value}
 (bo:w5.heap[ob]?=some (.cells #[.int .i64 0,.pointer (some ⟨w.heap.size,0,none⟩),.string ns,t3] 194 (0,0))) (bn:w5.heap[nb]?=some (.cells #[.pointer none,.pointer (some ⟨ob,0,none⟩),c2,.pointer none,c4,c5,c6,uv,uv,c9,c10] 171 (0,0)))
 (hd:ar k=0->c6= .int .u32 15/\PT w5 (mkE n (.pointer (some ⟨w.heap.size,0,none⟩)) D tps nms obs (DA w.heap.size o)) uv ((D k).own [])) (f6:Fr (fun b=>o.ownBlock=some b) w5 w6)
 (hown:w6.ownsRow (w.heap.size + 2) 106 1 (.slice (some ⟨g,0,none⟩) (k + 1) cap) (k + 1) (ptrs nms ++ [.pointer (some ⟨nb,0,none⟩)])) (hg:o.ownBlock=some g\/w5.heap.size<=g) (hsz:w.heap.size + 2<=WY.heap.size):
 Dcs w (w6.setCell ⟨w.heap.size + 1,2,none⟩ (.slice (some ⟨g,0,none⟩) (k + 1) cap)) da dl dc n D ar tpo (.slice (some ⟨g,0,none⟩) (k + 1) cap) tps (nms ++ [nb]) (obs ++ [ob]) (k + 1):=by
 obtain ⟨o',ho'⟩: ∃o':Value,o'= .slice (some ⟨g,0,none⟩) (k + 1) cap:=⟨_,rfl⟩;have ho'b:o'.ownBlock=some g:=by rw [ho'];rfl
 rw [<-ho'] at hown ⊢;have FC:Fr (fun b=>b=w.heap.size + 1) w6 (w6.setCell ⟨w.heap.size + 1,2,none⟩ o'):=(Fr.refl (fun b=>b=w.heap.size + 1) w6).setCell (p:=⟨w.heap.size + 1,2,none⟩) (.inl rfl) _;obtain ⟨w7,hw7⟩: ∃w7,w7=w6.setCell ⟨w.heap.size + 1,2,none⟩ o':=⟨_,rfl⟩;have nO:=fun {x:Nat} (hx:o.ownBlock=some x)=>World.ownsRow.lt h.nm.own _ hx
 have nO':=fun {x:Nat} (hx:o'.ownBlock=some x)=>World.ownsRow.lt hown _ hx
 have r5:=h.nm.keep f5 (fun _ _ h=>h);have hbb:w6.heap[w.heap.size + 1]?=_:=f6.heap (fun hx=>by have:=(nO hx).1;omega) (f5.heap id h.b);have hb7:=heap_setCell (a:=⟨w.heap.size + 1,2,none⟩) (v:=o') hbb rfl;rw [<-hw7] at FC hb7 ⊢;have hgl:=nO' ho'b;have R6:=PRow.next (b:=nb) h.nm hsz hnb (zF bn) f6.size hown;have R7:=R6.keep FC (fun x hx he=>by have:=(nO' hx).1;omega)
 have lies: ∀ {x:Nat} {c:Array Value} {t:TypeId},w5.heap[x]?=some (.cells c t (0,0))→t≠106→x≠w.heap.size + 1→w7.heap[x]?=some (.cells c t (0,0)):=fun {x c t} hx ht hne=>
  FC.heap hne (f6.heap (r5.notOwn hx ht) hx)
 have tr: ∀ {v:Value} {t:Tm},PT w5 (mkE n (.pointer (some ⟨w.heap.size,0,none⟩)) D tps nms obs (DA w.heap.size o)) v t→PT w7 (mkE n (.pointer (some ⟨w.heap.size,0,none⟩)) D tps (nms ++ [nb]) (obs ++ [ob]) (DA w.heap.size o')) v t:=by
  intro v t hp
  have h1:PT w5 ((mkE n (.pointer (some ⟨w.heap.size,0,none⟩)) D tps nms obs (DA w.heap.size o)).setA (fun b=>DA w.heap.size o b∨b=g)) v t:=PT.avoid (fun b hb=>by
   rcases hb with hb | hb
   ·exact .inl hb
   ·subst hb
    rcases hg with h | h
    ·exact .inl (.inr h)
    ·exact .inr h) hp
  have h2:=h1.keep (f6.mono fun b _ hb=> .inl (.inr hb));have h3:=h2.keep (FC.mono fun b _ hb=> .inl (.inl hb))
  have h4:=PT.avoid (E:=(mkE n (.pointer (some ⟨w.heap.size,0,none⟩)) D tps nms obs (DA w.heap.size o)).setA (fun b=>DA w.heap.size o b∨b=g)) (A:=DA w.heap.size o') (fun b hb=>by
   rcases hb with hb | hb
   ·exact .inl (.inl (.inl hb))
   ·rw [ho'b] at hb
    exact .inl (.inr (Option.some.inj hb).symm)) h3
  refine PT.grow (E:=mkE n (.pointer (some ⟨w.heap.size,0,none⟩)) D tps nms obs (DA w.heap.size o')) (E':=mkE n (.pointer (some ⟨w.heap.size,0,none⟩)) D tps (nms ++ [nb]) (obs ++ [ob]) (DA w.heap.size o')) rfl rfl (by show nms.length<=(nms ++ [nb]).length;simp) (fun k' hk'=> ?_) rfl rfl rfl h4;have hk'':k' < nms.length:=hk';show (nms ++ [nb]).getD k' 0=nms.getD k' 0;rw [List.getD_eq_getElem?_getD,List.getD_eq_getElem?_getD,List.getElem?_append_left hk'']
 have hnbl:=zF bn;have hobl:=zF bo;have s57:w5.heap.size<=w7.heap.size:=Nat.le_trans f6.size FC.size;refine ⟨?_,?_,?_,?_,fun b hb=> ?_,R7,by simp [h.obl],?_,fun b hb=> ?_,fun k' a b ha hb=> ?_,fun k' a ha har=> ?_⟩
 ·exact ((h.f.trans f5).transNew f6 (fun x hx=> .inr (by have:=(nO hx).1;omega))).transNew FC (fun x hx=> .inr (by omega))
 ·rw [hb7];rfl
 ·exact lies (f5.heap id h.p) (by decide) (by omega)
 ·have hto: ∀x,tpo.ownBlock=some x→ ¬o.ownBlock=some x:=fun x hx=>by
   rcases (wB h.tp.own).2 with ⟨_,rfl⟩ | ⟨g',_,rfl,_,_,_,⟨cs,hcs⟩,_⟩
   ·cases hx
   ·cases hx
    exact h.nm.notOwn hcs (by decide)
  exact ((h.tp.keep f5 (fun _ _ h=>h)).keep f6 hto).keep FC (fun x hx he=>by have:=(World.ownsRow.lt h.tp.own x hx).1;omega)
 ·obtain ⟨c,hc⟩:=h.tc b hb
  have:=(h.tp.lt b hb).1;exact ⟨c,lies (f5.heap id hc) (by decide) (by omega)⟩
 ·rw [List.nodup_append]
  refine ⟨h.obn,by simp,fun x hx y hy=> ?_⟩;have hy':y=ob:=by simpa using hy
  subst hy';have:=(h.obb x hx).2;omega
 ·rcases List.mem_append.1 hb with hb | hb
  ·have h1:=h.obb b hb
   have h2:=f5.size;exact ⟨h1.1,by omega⟩
  ·have:b=ob:=by simpa using hb
   subst this;exact ⟨by omega,by omega⟩
 ·have hkl:k' < (nms ++ [nb]).length:=(List.getElem?_eq_some_iff.1 ha).1
  have hnl:=h.nm.len;by_cases hkk:k' < k
  ·rw [List.getElem?_append_left (by omega)] at ha
   rw [List.getElem?_append_left (by rw [h.obl];exact hkk)] at hb;obtain ⟨⟨c0,c2,c4,c5,c6,c7,u,c9,c10,h1⟩,ns,t3,h2⟩:=h.dcl k' a b ha hb;have ha1:=(h.nm.lt a (List.mem_of_getElem? ha)).1;have hb1:=(h.obb b (List.mem_of_getElem? hb)).1;exact ⟨⟨c0,c2,c4,c5,c6,c7,u,c9,c10,lies (f5.heap id h1) (by decide) (by omega)⟩,ns,t3,lies (f5.heap id h2) (by decide) (by omega)⟩
  ·have hkk:k'=k:=by simp at hkl;omega
   subst hkk;rw [List.getElem?_append_right (by omega),hnl,Nat.sub_self] at ha;rw [List.getElem?_append_right (by rw [h.obl];exact Nat.le_refl _),h.obl,Nat.sub_self] at hb;cases ha
   cases hb
   exact ⟨⟨_,_,_,_,_,_,_,_,_,lies bn (by decide) (by omega)⟩,_,_,lies bo (by decide) (by omega)⟩
 ·have hkl:k' < (nms ++ [nb]).length:=(List.getElem?_eq_some_iff.1 ha).1
  have hnl:=h.nm.len;by_cases hkk:k' < k
  ·rw [List.getElem?_append_left (by omega)] at ha
   exact tr ((h.d0 k' a ha har).keep f5.sub)
  ·have hkk:k'=k:=by simp at hkl;omega
   subst hkk;have hnm:(nms ++ [nb]).getD k' 0=nb:=xX (by rw [List.getElem?_append_right (by omega),hnl,Nat.sub_self];rfl);rw [List.getElem?_append_right (by omega),hnl,Nat.sub_self] at ha;cases ha
   obtain ⟨hc6,hpu⟩:=hd har;have bn7:=lies bn (by decide) (by omega);rw [hc6] at bn7
   have:=PT.named0 (w:=w7) (E:=mkE n (.pointer (some ⟨w.heap.size,0,none⟩)) D tps (nms ++ [nb]) (obs ++ [ob]) (DA w.heap.size o')) (namedLab k') _ _ _ _ _ _ _ _ 15 rfl ⟨⟨fun _ h=>absurd rfl h,fun _=>⟨rfl,rfl⟩,fun _=>rfl⟩,by simp,fun h=>absurd h (show ¬(1:Nat)=0 by decide),fun h=>absurd h (show ¬(1:Nat)=8 by decide)⟩ (by show k' < (nms ++ [nb]).length;simp;omega)
    (by
     show ¬DA w.heap.size o' ((nms ++ [nb]).getD k' 0);rw [hnm];rintro (h1 | h1)
     ·omega
     ·exact R7.notOwn bn7 (by decide) h1)
    (by show w7.heap[(nms ++ [nb]).getD k' 0]?=_;rw [hnm];exact bn7) rfl
    (by
     show PT w7 _ uv (und D (.node (namedLab k') []));exact tr hpu)
   have e:(mkE n (.pointer (some ⟨w.heap.size,0,none⟩)) D tps (nms ++ [nb]) (obs ++ [ob]) (DA w.heap.size o')).nm (namedLab k').n=nb:=hnm;rw [e] at this;exact this
def yC (w:World)(M:Nat->Prop)(t:Tm)(e:Ending)(w':World):Prop:= ∃r:TyV,e= .returned r.val/\RT w' M r t/\Fr F0 w w'
def BackAt (E:GEnv)(bb:Nat)(da:Option Addr)(dl dc:Nat)(ar:Nat→Nat)(t:Tm):Prop:=
 ∀(w:World) (M:Nat->Prop) (v:Value),BEnv w E bb da dl dc ar->PT w E v t->(∀b,M b->b < w.heap.size)->Calls Tryz.prog 64 #[.pointer (some ⟨bb,0,none⟩),v] w (yC w M t)
theorem eq_ptr95 {w:World}{a b:Addr}{ca cb:Array Value}{ta tb:TypeId}(ha:w.heap[a.block]?=some (.cells ca ta (0,0)))(hb:w.heap[b.block]?=some (.cells cb tb (0,0))):(binOp .eql 95 (.pointer (some a)) (.pointer (some b))).run Tryz.prog w= .ok (.bool (decide (a=b))) w:=by
 have h:=run_key_eq ha hb;simp only [binOp];simp [h]
theorem param_any {E:GEnv}{bb:Nat}{da:Option Addr}{dl dc:Nat}{ar:Nat->Nat}(w:World)(hB:BEnv w E bb da dl dc ar)(p:Nat)(hp:p < E.n):Calls Tryz.prog 96 #[.pointer (some ⟨bb,0,none⟩),.pointer (some (E.tp p))] w fun e w'=>e= .returned (.int .i64 p)/\w'=w:=by
 obtain ⟨na,nc,ta,tc,hbb,_,htp⟩:=hB.b;obtain ⟨tb,to,rfl,htc⟩:=htp.resolve_left (by omega);have q:=zA hbb;have sz:=zF hbb;have KE:=hid hB.env.keys;have TC:=hid htc;have n8:=hB.n8;obtain ⟨n,hn⟩: ∃n,n=E.n:=⟨_,rfl⟩;have NN:=hid hn;rw [<-hn] at hp n8 q;clear hbb htp htc hB hn;go_enter Tryz.func96,Tryz.ntmps96;go_wp2_with fail
 clear q sz;go_loopw [5,6,12] (fun _ _ i wr=> ∃j:Nat,j<=p/\i= .int .i64 j/\wr=w) (fun _ _ i _=>n - (intOf i).toNat)
 case atStart=>exact ⟨0,Nat.zero_le _,rfl,rfl⟩
 case round=>
  obtain ⟨j,hj,rfl,rfl⟩:=hrel;have hle:(j:Int) < n:=by omega
  have c1:=TC.out j (by have:=NN.out;omega);have s1:=World.block_lt_of_cell? _ _ c1;dsimp only at s1;obtain ⟨ca,t1,h1⟩:=KE.out.cells j (by have:=NN.out;omega);obtain ⟨cb,t2,h2⟩:=KE.out.cells p (by have:=NN.out;omega);have heq:=eq_ptr95 h1 h2;clear h1 h2;by_cases hjp:j=p
  ·subst hjp
   have hd:decide (E.tp j=E.tp j)=true:=by simp
   go_wp2;go_ret;exact ⟨rfl,rfl⟩
  ·have hd: ¬E.tp j=E.tp p:=fun h=>hjp (KE.out.inj j p (by have:=NN.out;omega) (by have:=NN.out;omega) h)
   go_wp2;go_roundw
   case rel=>exact ⟨j + 1,by omega,by go_num,trivial⟩
   case measure=>simp [intOf];omega
theorem number_any (w:World)(n:Nat)(h:n < 3):Calls Tryz.prog 104 #[.int .i64 n] w fun e w'=>e= .returned (.int .i64 n)/\w'=w:=by
 have h3:n=0\/n=1\/n=2:=by omega
 rcases h3 with rfl | rfl | rfl
 all_goals
  go_enter Tryz.func104,Tryz.ntmps104;go_wp2;go_ret;exact ⟨rfl,rfl⟩
section
variable {E:GEnv}{bb:Nat}{da:Option Addr}{dl dc:Nat}{ar:Nat→Nat}(w:World)(M:Nat→Prop)(hB:BEnv w E bb da dl dc ar)(hM: ∀b,M b→b < w.heap.size)
 include hB hM
theorem back_basic (f:Lab)(a:Nat)(i nm:Value)(hk:f.kind=0)(hN:Norm f)(h:w.heap[a]?=some (.cells #[.int .i64 (f.n + 1:Nat),i,nm] 252 (0,0)))(hn:f.n < 17):
 Calls Tryz.prog 64 #[.pointer (some ⟨bb,0,none⟩),.iface 179 (.pointer (some ⟨a,0,none⟩))] w (yC w M (.node f [])):=by
 have A0:=zD p179;have FA:=hid ((Fr.refl F0 w).alloc (.cells #[.int .i64 0,.int .i64 0,.int .i64 0,.bool false,.slice none 0 0,.string ⟨#[]⟩] 26));have R4:=hid (heap_alloc_new w (.cells #[.int .i64 0,.int .i64 0,.int .i64 0,.bool false,.slice none 0 0,.string ⟨#[]⟩] 26));have h1:=FA.out.heap id h;have q:=zA h1;have s:=zF h1;have HK:=hid hk;have HN:=hid hN;clear hB hM h h1 hk hN;go_enter Tryz.func64,Tryz.ntmps64
 go_wp2_with (first | (go_at_call 95;go_in) | (refine zR rfl _ _ rfl rfl w.heap.size ⟨0,f.n,0,false,none,0,0,⟨#[]⟩⟩ rfl rfl R4.out ?_))
 intro WF hWF fWF;have HW:=hid hWF;have FW:=hid (FA.out.transNew fWF (fun x hx=> .inr (by omega)));clear hWF fWF;go_wp2;refine bodyPost_ret (ret6 rfl rfl HW.out) rfl ?_;refine ⟨⟨0,f.n,0,false,none,0,0,⟨#[]⟩⟩,rfl,.node _ f [] [] ⟨by rw [HK.out];rfl,by rw [HK.out];decide,by rw [HK.out];decide,by rw [if_pos (.inl HK.out)],by rw [if_neg (by rw [HK.out];decide)];exact HN.out.c (by rw [HK.out];decide),by rw [if_neg (by rw [HK.out];decide)];exact HN.out.names (by rw [HK.out];decide),rfl,⟨Nat.le_refl 0,Nat.zero_le _,Nat.zero_le _⟩⟩ rfl (.inl rfl) (fun i y t h=>by simp at h),FW.out⟩
theorem back_one:
 (∀(f:Lab) (a:Nat) (ty:TypeId) (pv:Value) (u:Tm) (hk:f.kind=4) (hN:Norm f) (h:w.heap[a]?=some (.cells #[.iface ty pv] 207 (0,0))) (IH: ∀(M:Nat→Prop) w',Fr F0 w w'→(∀b,M b→b < w'.heap.size)→Calls Tryz.prog 64 #[.pointer (some ⟨bb,0,none⟩),.iface ty pv] w' (yC w' M u)),
  Calls Tryz.prog 64 #[.pointer (some ⟨bb,0,none⟩),.iface 142 (.pointer (some ⟨a,0,none⟩))] w (yC w M (.node f [u])))/\
 (∀(f:Lab) (a:Nat) (ty:TypeId) (pv:Value) (u:Tm) (hk:f.kind=5) (hN:Norm f) (h:w.heap[a]?=some (.cells #[.iface ty pv] 209 (0,0))) (IH: ∀(M:Nat→Prop) w',Fr F0 w w'→(∀b,M b→b < w'.heap.size)→Calls Tryz.prog 64 #[.pointer (some ⟨bb,0,none⟩),.iface ty pv] w' (yC w' M u)),
  Calls Tryz.prog 64 #[.pointer (some ⟨bb,0,none⟩),.iface 144 (.pointer (some ⟨a,0,none⟩))] w (yC w M (.node f [u])))/\
 (∀(f:Lab) (a:Nat) (ty:TypeId) (pv:Value) (u:Tm) (hk:f.kind=6) (hN:Norm f) (h:w.heap[a]?=some (.cells #[.int .i64 f.n,.iface ty pv] 211 (0,0))) (IH: ∀(M:Nat→Prop) w',Fr F0 w w'→(∀b,M b→b < w'.heap.size)→Calls Tryz.prog 64 #[.pointer (some ⟨bb,0,none⟩),.iface ty pv] w' (yC w' M u)),
  Calls Tryz.prog 64 #[.pointer (some ⟨bb,0,none⟩),.iface 146 (.pointer (some ⟨a,0,none⟩))] w (yC w M (.node f [u])))/\
 (∀(f:Lab) (a:Nat) (ty:TypeId) (pv:Value) (u:Tm) (hk:f.kind=8) (hN:Norm f) (h:w.heap[a]?=some (.cells #[.int .i64 f.n,.iface ty pv] 215 (0,0))) (hn:f.n < 3) (IH: ∀(M:Nat→Prop) w',Fr F0 w w'→(∀b,M b→b < w'.heap.size)→Calls Tryz.prog 64 #[.pointer (some ⟨bb,0,none⟩),.iface ty pv] w' (yC w' M u)),
  Calls Tryz.prog 64 #[.pointer (some ⟨bb,0,none⟩),.iface 150 (.pointer (some ⟨a,0,none⟩))] w (yC w M (.node f [u]))):=by
 refine ⟨@fun f a ty pv u hk hN h IH=>have tg:Fin 1:=0;?_,@fun f a ty pv u hk hN h IH=>have tg:Fin 2:=0;?_,@fun f a ty pv u hk hN h IH=>have tg:Fin 3:=0;?_,@fun f a ty pv u hk hN h hn IH=>have tg:Fin 4:=0;?_⟩
 all_goals
  have A0:=zD p179;have A1:=zD p95;have A2:=zD p106;have A3:=zD p142
  first
  |rename Fin 1=>tg
  |rename Fin 2=>tg
   have A4:=zD p144
  |rename Fin 3=>tg
   have A4:=zD p144;have A5:=zD p146
  |have A4:=zD p144
   have A5:=zD p146;have A6:=zD p148;have A7:=zD p150
  have FA:=hid ((Fr.refl F0 w).alloc (.cells #[.int .i64 0,.int .i64 0,.int .i64 0,.bool false,.slice none 0 0,.string ⟨#[]⟩] 26));have R4:=hid (heap_alloc_new w (.cells #[.int .i64 0,.int .i64 0,.int .i64 0,.bool false,.slice none 0 0,.string ⟨#[]⟩] 26));have h1:=FA.out.heap id h;have q:=zA h1;have s:=zF h1;have HK:=hid hk;have HN:=hid hN;have HI:=hid IH;have HM:=hid hM;have H1:=hid h1;clear hB hM h h1 hk hN IH
  go_enter Tryz.func64,Tryz.ntmps64
  first
  |rename Fin 1=>tg
   go_wp2_with (first | (go_at_call 98;go_in) | fail)
  |rename Fin 2=>tg
   go_wp2_with (first | (go_at_call 99;go_in) | fail)
  |rename Fin 3=>tg
   go_wp2_with (first | (go_at_call 100;go_in) | (go_at_call 101;go_in) | fail)
  |go_wp2_with (first | (go_at_call 105;go_in) | (go_at_call 106;go_in) | (go_at_call 104;refine (number_any _ f.n hn).mono ?_;rintro e wn ⟨rfl,rfl⟩) | fail)
  have MX:=hid (show ∀b,(M b∨b=w.heap.size)→b < (w.alloc (.cells #[.int .i64 0,.int .i64 0,.int .i64 0,.bool false,.slice none 0 0,.string ⟨#[]⟩] 26)).heap.size from fun b hb=>by
   have h1:=zF R4.out;have h2:=FA.out.size;rcases hb with hb | hb
   ·have:=HM.out b hb;omega
   ·omega)
  refine (HI.out (fun b=>M b\/b=w.heap.size) _ FA.out MX.out).mono ?_;rintro e w2 ⟨r,rfl,hr,hf⟩;have F2:=hid (FA.out.trans hf);have R2:=hid (hf.heap id R4.out);have RR:=hid hr;have S0:=hid hf.size;clear hr hf q s;unfold TyV.val;have FX:=hid ((Fr.refl F0 w2).alloc (.cells #[.int .i64 r.k,.int .i64 r.n,.int .i64 r.c,.bool r.v,.slice r.a r.len r.cap,.string r.nm] 26));have RX:=hid (heap_alloc_new w2 (.cells #[.int .i64 r.k,.int .i64 r.n,.int .i64 r.c,.bool r.v,.slice r.a r.len r.cap,.string r.nm] 26))
  have S2:=hid (show w.heap.size < w2.heap.size from zF R2.out)
  first
  |rename Fin 1=>tg
   go_wp2_with (refine zR rfl _ _ rfl rfl w.heap.size ⟨4,0,0,false,some ⟨w2.heap.size,0,none⟩,1,1,⟨#[]⟩⟩ rfl rfl (FX.out.heap id R2.out) ?_)
  |rename Fin 2=>tg
   go_wp2_with (refine zR rfl _ _ rfl rfl w.heap.size ⟨5,0,0,false,some ⟨w2.heap.size,0,none⟩,1,1,⟨#[]⟩⟩ rfl rfl (FX.out.heap id R2.out) ?_)
  |rename Fin 3=>tg
   go_wp2_with (refine zR rfl _ _ rfl rfl w.heap.size ⟨6,f.n,0,false,some ⟨w2.heap.size,0,none⟩,1,1,⟨#[]⟩⟩ rfl rfl (FX.out.heap id R2.out) ?_)
  |go_wp2_with (refine zR rfl _ _ rfl rfl w.heap.size ⟨8,f.n,0,false,some ⟨w2.heap.size,0,none⟩,1,1,⟨#[]⟩⟩ rfl rfl (FX.out.heap id R2.out) ?_)
  intro WF hWF fWF;have HW:=hid hWF;have FW:=hid ((F2.out.trans FX.out).transNew fWF (fun x hx=> .inr (by omega)));have ROW:=hid (fWF.heap (by have:=S2.out;omega) RX.out);have MS: ¬M w2.heap.size:=fun h=>by have h1:=HM.out _ h;have h2:=S2.out;omega
  have FM:Fr (fun b=>M b\/b=w.heap.size) w2 WF:=(FX.out.sub).trans (fWF.mono fun b _ hb=> .inr hb);have MS':=hid MS;have FM':=hid FM;clear hWF fWF MS FM;go_wp2;refine bodyPost_ret (ret6 rfl rfl HW.out) rfl ?_;have qr:=zA ROW.out
  first
  |rename Fin 1=>tg
   refine ⟨⟨4,0,0,false,some ⟨w2.heap.size,0,none⟩,1,1,⟨#[]⟩⟩,rfl,.node _ f [r] [u] ⟨by rw [HK.out];rfl,by rw [HK.out];decide,by rw [HK.out];decide,by rw [if_neg (by rw [HK.out];decide)];exact HN.out.n (by rw [HK.out];decide) (by rw [HK.out];decide) (by rw [HK.out];decide) (by rw [HK.out];decide) (by rw [HK.out];decide),by rw [if_neg (by rw [HK.out];decide)];exact HN.out.c (by rw [HK.out];decide),by rw [if_neg (by rw [HK.out];decide)];exact HN.out.names (by rw [HK.out];decide),rfl,⟨Nat.le_refl _,Nat.le_of_ble_eq_true rfl,Nat.le_of_ble_eq_true rfl⟩⟩ rfl (.inr ⟨_,0,rfl,fun i y hy=> ?_⟩) (fun i y t hy ht=> ?_),FW.out⟩
  |rename Fin 2=>tg
   refine ⟨⟨5,0,0,false,some ⟨w2.heap.size,0,none⟩,1,1,⟨#[]⟩⟩,rfl,.node _ f [r] [u] ⟨by rw [HK.out];rfl,by rw [HK.out];decide,by rw [HK.out];decide,by rw [if_neg (by rw [HK.out];decide)];exact HN.out.n (by rw [HK.out];decide) (by rw [HK.out];decide) (by rw [HK.out];decide) (by rw [HK.out];decide) (by rw [HK.out];decide),by rw [if_neg (by rw [HK.out];decide)];exact HN.out.c (by rw [HK.out];decide),by rw [if_neg (by rw [HK.out];decide)];exact HN.out.names (by rw [HK.out];decide),rfl,⟨Nat.le_refl _,Nat.le_of_ble_eq_true rfl,Nat.le_of_ble_eq_true rfl⟩⟩ rfl (.inr ⟨_,0,rfl,fun i y hy=> ?_⟩) (fun i y t hy ht=> ?_),FW.out⟩
  |rename Fin 3=>tg
   refine ⟨⟨6,f.n,0,false,some ⟨w2.heap.size,0,none⟩,1,1,⟨#[]⟩⟩,rfl,.node _ f [r] [u] ⟨by rw [HK.out];rfl,by rw [HK.out];decide,by rw [HK.out];decide,by rw [if_pos (by rw [HK.out];decide)],by rw [if_neg (by rw [HK.out];decide)];exact HN.out.c (by rw [HK.out];decide),by rw [if_neg (by rw [HK.out];decide)];exact HN.out.names (by rw [HK.out];decide),rfl,⟨Nat.le_refl _,Nat.le_of_ble_eq_true rfl,Nat.le_of_ble_eq_true rfl⟩⟩ rfl (.inr ⟨_,0,rfl,fun i y hy=> ?_⟩) (fun i y t hy ht=> ?_),FW.out⟩
  |refine ⟨⟨8,f.n,0,false,some ⟨w2.heap.size,0,none⟩,1,1,⟨#[]⟩⟩,rfl,.node _ f [r] [u] ⟨by rw [HK.out];rfl,by rw [HK.out];decide,by rw [HK.out];decide,by rw [if_pos (by rw [HK.out];decide)],by rw [if_neg (by rw [HK.out];decide)];exact HN.out.c (by rw [HK.out];decide),by rw [if_neg (by rw [HK.out];decide)];exact HN.out.names (by rw [HK.out];decide),rfl,⟨Nat.le_refl _,Nat.le_of_ble_eq_true rfl,Nat.le_of_ble_eq_true rfl⟩⟩ rfl (.inr ⟨_,0,rfl,fun i y hy=> ?_⟩) (fun i y t hy ht=> ?_),FW.out⟩
  ·match i,hy with
   |0,hy=>cases hy;exact ⟨MS'.out,qr 0,qr 1,qr 2,qr 3,qr 4,qr 5⟩
  ·match i,hy,ht with
   |0,hy,ht=>cases hy;cases ht;exact (RR.out.keep FM'.out).mono fun b hb=> .inl hb
theorem back_map (f:Lab)(a:Nat)(ty:TypeId)(pv:Value)(u:Tm)(ty2:TypeId)(pv2:Value)(u2:Tm)(hk:f.kind=7)(hN:Norm f)(h:w.heap[a]?=some (.cells #[.iface ty pv,.iface ty2 pv2] 213 (0,0)))
 (IH: ∀(M:Nat->Prop) w',Fr F0 w w'->(∀b,M b->b < w'.heap.size)->Calls Tryz.prog 64 #[.pointer (some ⟨bb,0,none⟩),.iface ty pv] w' (yC w' M u)) (IH2: ∀(M:Nat->Prop) w',Fr F0 w w'->(∀b,M b->b < w'.heap.size)->Calls Tryz.prog 64 #[.pointer (some ⟨bb,0,none⟩),.iface ty2 pv2] w' (yC w' M u2)):
 Calls Tryz.prog 64 #[.pointer (some ⟨bb,0,none⟩),.iface 148 (.pointer (some ⟨a,0,none⟩))] w (yC w M (.node f [u,u2])):=by
 have A0:=zD p179;have A1:=zD p95;have A2:=zD p106;have A3:=zD p142;have A4:=zD p144;have A5:=zD p146;have A6:=zD p148;have FA:=hid ((Fr.refl F0 w).alloc (.cells #[.int .i64 0,.int .i64 0,.int .i64 0,.bool false,.slice none 0 0,.string ⟨#[]⟩] 26));have R4:=hid (heap_alloc_new w (.cells #[.int .i64 0,.int .i64 0,.int .i64 0,.bool false,.slice none 0 0,.string ⟨#[]⟩] 26));have h1:=FA.out.heap id h;have q:=zA h1
 have s:=zF h1;have HK:=hid hk;have HN:=hid hN;have HI:=hid IH;have HM:=hid hM;have H1:=hid h1;have HI2:=hid IH2;clear hB hM h h1 hk hN IH IH2;go_enter Tryz.func64,Tryz.ntmps64;go_wp2_with (first | (go_at_call 102;go_in) | (go_at_call 103;go_in) | fail)
 have MX:=hid (show ∀b,(M b∨b=w.heap.size)→b < (w.alloc (.cells #[.int .i64 0,.int .i64 0,.int .i64 0,.bool false,.slice none 0 0,.string ⟨#[]⟩] 26)).heap.size from fun b hb=>by
  have h1:=zF R4.out;have h2:=FA.out.size;rcases hb with hb | hb
  ·have:=HM.out b hb;omega
  ·omega)
 refine (HI.out (fun b=>M b\/b=w.heap.size) _ FA.out MX.out).mono ?_;rintro e w2 ⟨r,rfl,hr,hf⟩;have F2:=hid (FA.out.trans hf);have R2:=hid (hf.heap id R4.out);have RR:=hid hr;have S0:=hid hf.size;have q2:=zA (hf.heap id H1.out);have s2:=zF (hf.heap id H1.out);clear hr hf q s;unfold TyV.val;go_wp2_with (first | (go_at_call 103;go_in) | fail)
 refine (HI2.out (fun b=>M b\/b=w.heap.size) _ F2.out (fun b hb=>Nat.lt_of_lt_of_le (MX.out b hb) (by have h1:=FA.out.size;have h2:=S0.out;omega))).mono ?_;rintro e w3 ⟨r2,rfl,hr2,hf3⟩;have F3:=hid (F2.out.trans hf3);have R3:=hid (hf3.heap id R2.out);have RR2:=hid hr2;have RR3:=hid (RR.out.keep hf3.sub);clear hr2 hf3 q2 s2;unfold TyV.val;have FX:=hid ((Fr.refl F0 w3).alloc (.cells #[.int .i64 r.k,.int .i64 r.n,.int .i64 r.c,.bool r.v,.slice r.a r.len r.cap,.string r.nm,.int .i64 r2.k,.int .i64 r2.n,.int .i64 r2.c,.bool r2.v,.slice r2.a r2.len r2.cap,.string r2.nm] 26))
 have RX:=hid (heap_alloc_new w3 (.cells #[.int .i64 r.k,.int .i64 r.n,.int .i64 r.c,.bool r.v,.slice r.a r.len r.cap,.string r.nm,.int .i64 r2.k,.int .i64 r2.n,.int .i64 r2.c,.bool r2.v,.slice r2.a r2.len r2.cap,.string r2.nm] 26));have S2:=hid (show w.heap.size < w3.heap.size from zF R3.out);go_wp2_with (refine zR rfl _ _ rfl rfl w.heap.size ⟨7,0,0,false,some ⟨w3.heap.size,0,none⟩,2,2,⟨#[]⟩⟩ rfl rfl (FX.out.heap id R3.out) ?_)
 intro WF hWF fWF;have HW:=hid hWF;have FW:=hid ((F3.out.trans FX.out).transNew fWF (fun x hx=> .inr (by omega)));have ROW:=hid (fWF.heap (by have:=S2.out;omega) RX.out);have MS: ¬M w3.heap.size:=fun h=>by have h1:=HM.out _ h;have h2:=S2.out;omega
 have FM:Fr (fun b=>M b\/b=w.heap.size) w3 WF:=(FX.out.sub).trans (fWF.mono fun b _ hb=> .inr hb);have MS':=hid MS;have FM':=hid FM;clear hWF fWF MS FM;go_wp2;refine bodyPost_ret (ret6 rfl rfl HW.out) rfl ?_;have qr:=zA ROW.out;refine ⟨⟨7,0,0,false,some ⟨w3.heap.size,0,none⟩,2,2,⟨#[]⟩⟩,rfl,.node _ f [r,r2] [u,u2] ⟨by rw [HK.out];rfl,by rw [HK.out];decide,by rw [HK.out];decide,by rw [if_neg (by rw [HK.out];decide)];exact HN.out.n (by rw [HK.out];decide) (by rw [HK.out];decide) (by rw [HK.out];decide) (by rw [HK.out];decide) (by rw [HK.out];decide),by rw [if_neg (by rw [HK.out];decide)];exact HN.out.c (by rw [HK.out];decide),by rw [if_neg (by rw [HK.out];decide)];exact HN.out.names (by rw [HK.out];decide),rfl,⟨Nat.le_refl _,Nat.le_of_ble_eq_true rfl,Nat.le_of_ble_eq_true rfl⟩⟩ rfl (.inr ⟨_,0,rfl,fun i y hy=> ?_⟩) (fun i y t hy ht=> ?_),FW.out⟩
 ·match i,hy with
  |0,hy=>cases hy;exact ⟨MS'.out,qr 0,qr 1,qr 2,qr 3,qr 4,qr 5⟩
  |1,hy=>cases hy;exact ⟨MS'.out,qr 6,qr 7,qr 8,qr 9,qr 10,qr 11⟩
 ·match i,hy,ht with
  |0,hy,ht=>cases hy;cases ht;exact (RR3.out.keep FM'.out).mono fun b hb=> .inl hb
  |1,hy,ht=>cases hy;cases ht;exact (RR2.out.keep FM'.out).mono fun b hb=> .inl hb
end
end Go.Proofs.YtpekidjfbinekaaGreatDoor
