/- G16 -/
import Derived.Test.YtpekidjfbinekaaGreatDoorA14
set_option maxRecDepth 100000
set_option maxHeartbeats 60000000
set_option linter.all false
namespace Go.Proofs.YtpekidjfbinekaaGreatDoor
open Go.RowKit Uni
theorem PT.inv0 {w:World}{E:GEnv}{v:Value}{f:Lab}{ts:List Tm}(h:PT w E v (.node f ts))(hk:f.kind=0): ∃a i nm,ts= []/\v= .iface 179 (.pointer (some ⟨a,0,none⟩))/\ ¬E.A a/\w.heap[a]?=some (.cells #[.int .i64 (f.n + 1:Nat),i,nm] 252 (0,0)):=by
 cases h with
 |basic f a i nm h1 h2 h3 h4=>exact ⟨a,i,nm,rfl,rfl,h3,h4⟩
 |ptr f a v t h1 h2 h3 h4 h5=>omega
 |slice f a v t h1 h2 h3 h4 h5=>omega
 |array f a v t h1 h2 h3 h4 h5=>omega
 |map f a v v' t t' h1 h2 h3 h4 h5 h6=>omega
 |chan f a v t h1 h2 h3 h4 h5=>omega
 |struct f a fa fc vs ts h1 h2 hn h3 h4 h5 h6 h7 h8 h9=>omega
 |func f a pp rp vs ts h1 h2 hn h3 h4 h5 h6 h7 h8=>omega
 |named0 f c0 c1 c2 c4 c5 u c9 c10 st h1 h2 h3 h4 h5 h6 h7=>omega
 |named f a ib lb ta tc c0 c1 c2 c4 c5 u c9 c10 st vs ts h1 h2 h3 hne h4 h5 h6 h7 h8 h9 h10 h11 h12 h13 h14 h15 h16=>omega
theorem PT.inv4 {w:World}{E:GEnv}{v:Value}{f:Lab}{ts:List Tm}(h:PT w E v (.node f ts))(hk:f.kind=4): ∃a v' t,ts= [t]/\v= .iface 142 (.pointer (some ⟨a,0,none⟩))/\ ¬E.A a/\w.heap[a]?=some (.cells #[v'] 207 (0,0))/\PT w E v' t:=by
 cases h with
 |basic f a i nm h1 h2 h3 h4=>omega
 |ptr f a v t h1 h2 h3 h4 h5=>exact ⟨a,v,t,rfl,rfl,h3,h4,h5⟩
 |slice f a v t h1 h2 h3 h4 h5=>omega
 |array f a v t h1 h2 h3 h4 h5=>omega
 |map f a v v' t t' h1 h2 h3 h4 h5 h6=>omega
 |chan f a v t h1 h2 h3 h4 h5=>omega
 |struct f a fa fc vs ts h1 h2 hn h3 h4 h5 h6 h7 h8 h9=>omega
 |func f a pp rp vs ts h1 h2 hn h3 h4 h5 h6 h7 h8=>omega
 |named0 f c0 c1 c2 c4 c5 u c9 c10 st h1 h2 h3 h4 h5 h6 h7=>omega
 |named f a ib lb ta tc c0 c1 c2 c4 c5 u c9 c10 st vs ts h1 h2 h3 hne h4 h5 h6 h7 h8 h9 h10 h11 h12 h13 h14 h15 h16=>omega
theorem PT.inv5 {w:World}{E:GEnv}{v:Value}{f:Lab}{ts:List Tm}(h:PT w E v (.node f ts))(hk:f.kind=5): ∃a v' t,ts= [t]/\v= .iface 144 (.pointer (some ⟨a,0,none⟩))/\ ¬E.A a/\w.heap[a]?=some (.cells #[v'] 209 (0,0))/\PT w E v' t:=by
 cases h with
 |basic f a i nm h1 h2 h3 h4=>omega
 |ptr f a v t h1 h2 h3 h4 h5=>omega
 |slice f a v t h1 h2 h3 h4 h5=>exact ⟨a,v,t,rfl,rfl,h3,h4,h5⟩
 |array f a v t h1 h2 h3 h4 h5=>omega
 |map f a v v' t t' h1 h2 h3 h4 h5 h6=>omega
 |chan f a v t h1 h2 h3 h4 h5=>omega
 |struct f a fa fc vs ts h1 h2 hn h3 h4 h5 h6 h7 h8 h9=>omega
 |func f a pp rp vs ts h1 h2 hn h3 h4 h5 h6 h7 h8=>omega
 |named0 f c0 c1 c2 c4 c5 u c9 c10 st h1 h2 h3 h4 h5 h6 h7=>omega
 |named f a ib lb ta tc c0 c1 c2 c4 c5 u c9 c10 st vs ts h1 h2 h3 hne h4 h5 h6 h7 h8 h9 h10 h11 h12 h13 h14 h15 h16=>omega
theorem PT.inv6 {w:World}{E:GEnv}{v:Value}{f:Lab}{ts:List Tm}(h:PT w E v (.node f ts))(hk:f.kind=6): ∃a v' t,ts= [t]/\v= .iface 146 (.pointer (some ⟨a,0,none⟩))/\ ¬E.A a/\w.heap[a]?=some (.cells #[.int .i64 f.n,v'] 211 (0,0))/\PT w E v' t:=by
 cases h with
 |basic f a i nm h1 h2 h3 h4=>omega
 |ptr f a v t h1 h2 h3 h4 h5=>omega
 |slice f a v t h1 h2 h3 h4 h5=>omega
 |array f a v t h1 h2 h3 h4 h5=>exact ⟨a,v,t,rfl,rfl,h3,h4,h5⟩
 |map f a v v' t t' h1 h2 h3 h4 h5 h6=>omega
 |chan f a v t h1 h2 h3 h4 h5=>omega
 |struct f a fa fc vs ts h1 h2 hn h3 h4 h5 h6 h7 h8 h9=>omega
 |func f a pp rp vs ts h1 h2 hn h3 h4 h5 h6 h7 h8=>omega
 |named0 f c0 c1 c2 c4 c5 u c9 c10 st h1 h2 h3 h4 h5 h6 h7=>omega
 |named f a ib lb ta tc c0 c1 c2 c4 c5 u c9 c10 st vs ts h1 h2 h3 hne h4 h5 h6 h7 h8 h9 h10 h11 h12 h13 h14 h15 h16=>omega
theorem PT.inv8 {w:World}{E:GEnv}{v:Value}{f:Lab}{ts:List Tm}(h:PT w E v (.node f ts))(hk:f.kind=8): ∃a v' t,ts= [t]/\v= .iface 150 (.pointer (some ⟨a,0,none⟩))/\ ¬E.A a/\w.heap[a]?=some (.cells #[.int .i64 f.n,v'] 215 (0,0))/\PT w E v' t:=by
 cases h with
 |basic f a i nm h1 h2 h3 h4=>omega
 |ptr f a v t h1 h2 h3 h4 h5=>omega
 |slice f a v t h1 h2 h3 h4 h5=>omega
 |array f a v t h1 h2 h3 h4 h5=>omega
 |map f a v v' t t' h1 h2 h3 h4 h5 h6=>omega
 |chan f a v t h1 h2 h3 h4 h5=>exact ⟨a,v,t,rfl,rfl,h3,h4,h5⟩
 |struct f a fa fc vs ts h1 h2 hn h3 h4 h5 h6 h7 h8 h9=>omega
 |func f a pp rp vs ts h1 h2 hn h3 h4 h5 h6 h7 h8=>omega
 |named0 f c0 c1 c2 c4 c5 u c9 c10 st h1 h2 h3 h4 h5 h6 h7=>omega
 |named f a ib lb ta tc c0 c1 c2 c4 c5 u c9 c10 st vs ts h1 h2 h3 hne h4 h5 h6 h7 h8 h9 h10 h11 h12 h13 h14 h15 h16=>omega
theorem PT.inv7 {w:World}{E:GEnv}{v:Value}{f:Lab}{ts:List Tm}(h:PT w E v (.node f ts))(hk:f.kind=7): ∃a v1 v2 t1 t2,ts= [t1,t2]/\v= .iface 148 (.pointer (some ⟨a,0,none⟩))/\ ¬E.A a/\w.heap[a]?=some (.cells #[v1,v2] 213 (0,0))/\PT w E v1 t1/\PT w E v2 t2:=by
 cases h with
 |basic f a i nm h1 h2 h3 h4=>omega
 |ptr f a v t h1 h2 h3 h4 h5=>omega
 |slice f a v t h1 h2 h3 h4 h5=>omega
 |array f a v t h1 h2 h3 h4 h5=>omega
 |map f a v v' t t' h1 h2 h3 h4 h5 h6=>exact ⟨a,v,v',t,t',rfl,rfl,h3,h4,h5,h6⟩
 |chan f a v t h1 h2 h3 h4 h5=>omega
 |struct f a fa fc vs ts h1 h2 hn h3 h4 h5 h6 h7 h8 h9=>omega
 |func f a pp rp vs ts h1 h2 hn h3 h4 h5 h6 h7 h8=>omega
 |named0 f c0 c1 c2 c4 c5 u c9 c10 st h1 h2 h3 h4 h5 h6 h7=>omega
 |named f a ib lb ta tc c0 c1 c2 c4 c5 u c9 c10 st vs ts h1 h2 h3 hne h4 h5 h6 h7 h8 h9 h10 h11 h12 h13 h14 h15 h16=>omega
theorem PT.inv9 {w:World}{E:GEnv}{v:Value}{f:Lab}{ts:List Tm}(h:PT w E v (.node f ts))(hk:f.kind=9): ∃a fa fc,∃vs:List Value,v= .iface 156 (.pointer (some ⟨a,0,none⟩))/\f.names.length=ts.length/\ ¬E.A a/\w.heap[a]?=some (.cells #[.slice fa vs.length fc,.slice none 0 0] 223 (0,0))/\vs.length=ts.length/\vs.length<=fc/\fc<=maxLen/\xJ w E fa vs f.names/\(∀(i:Nat)(v:Value)(t:Tm),vs[i]?=some v->ts[i]?=some t->PT w E v t):=by
 cases h with
 |basic f a i nm h1 h2 h3 h4=>omega
 |ptr f a v t h1 h2 h3 h4 h5=>omega
 |slice f a v t h1 h2 h3 h4 h5=>omega
 |array f a v t h1 h2 h3 h4 h5=>omega
 |map f a v v' t t' h1 h2 h3 h4 h5 h6=>omega
 |chan f a v t h1 h2 h3 h4 h5=>omega
 |struct f a fa fc vs ts h1 h2 hn h3 h4 h5 h6 h7 h8 h9=>exact ⟨a,fa,fc,vs,rfl,hn,h3,h4,h5,h6,h7,h8,h9⟩
 |func f a pp rp vs ts h1 h2 hn h3 h4 h5 h6 h7 h8=>omega
 |named0 f c0 c1 c2 c4 c5 u c9 c10 st h1 h2 h3 h4 h5 h6 h7=>omega
 |named f a ib lb ta tc c0 c1 c2 c4 c5 u c9 c10 st vs ts h1 h2 h3 hne h4 h5 h6 h7 h8 h9 h10 h11 h12 h13 h14 h15 h16=>omega
theorem PT.inv10 {w:World}{E:GEnv}{v:Value}{f:Lab}{ts:List Tm}(h:PT w E v (.node f ts))(hk:f.kind=10): ∃a pp rp,∃vs:List Value,v= .iface 128 (.pointer (some ⟨a,0,none⟩))/\f.cnt<=ts.length/\ ¬E.A a/\w.heap[a]?=some (.cells #[.pointer none,.pointer none,pp,rp,.bool f.vari] 136 (0,0))/\vs.length=ts.length/\yZ w E pp (vs.take f.cnt)/\yZ w E rp (vs.drop f.cnt)/\(∀(i:Nat)(v:Value)(t:Tm),vs[i]?=some v->ts[i]?=some t->PT w E v t):=by
 cases h with
 |basic f a i nm h1 h2 h3 h4=>omega
 |ptr f a v t h1 h2 h3 h4 h5=>omega
 |slice f a v t h1 h2 h3 h4 h5=>omega
 |array f a v t h1 h2 h3 h4 h5=>omega
 |map f a v v' t t' h1 h2 h3 h4 h5 h6=>omega
 |chan f a v t h1 h2 h3 h4 h5=>omega
 |struct f a fa fc vs ts h1 h2 hn h3 h4 h5 h6 h7 h8 h9=>omega
 |func f a pp rp vs ts h1 h2 hn h3 h4 h5 h6 h7 h8=>exact ⟨a,pp,rp,vs,rfl,hn,h3,h4,h5,h6,h7,h8⟩
 |named0 f c0 c1 c2 c4 c5 u c9 c10 st h1 h2 h3 h4 h5 h6 h7=>omega
 |named f a ib lb ta tc c0 c1 c2 c4 c5 u c9 c10 st vs ts h1 h2 h3 hne h4 h5 h6 h7 h8 h9 h10 h11 h12 h13 h14 h15 h16=>omega
section
variable {step:St->Tm->Tm->Uni.Mode->Option (Option St)}{zQ:Option (St->Tm->Tm->Uni.Mode->Option (Option St))}{s:St}{f g:Lab}{m:Uni.Mode}
theorem seqN_one (st:St->Tm->Tm->Option (Option St))(s:St)(a b:Tm):seqN st s [a] [b]=st s a b:=by
 unfold seqN
 cases h:st s a b with
 |none=>rfl
 |some q=>cases q <;>simp [seqN]
theorem seqN_two (st:St->Tm->Tm->Option (Option St))(s:St)(a b a' b':Tm):seqN st s [a,a'] [b,b']=match st s a b with | some (some s')=>st s' a' b' | q=>q:=by
 unfold seqN
 cases h:st s a b with
 |none=>rfl
 |some q=>cases q with
  |none=>rfl
  |some s'=>exact seqN_one st s' a' b'
theorem node_0 (hf:f.kind=0)(hg:g.kind=0)(us bs:List Tm):zK step zQ s f us g bs m=some (if f.n=g.n then some s else none):=by
 simp only [zK,hf,hg];simp
theorem node_45 (hf:f.kind=4\/f.kind=5)(hg:g.kind=f.kind)(a b:Tm):zK step zQ s f [a] g [b] m=step s a b (Uni.inner m):=by
 unfold zK;rw [if_neg (by omega),if_neg (by omega),if_neg (by omega),if_neg (by omega),if_neg (by omega),if_neg (by omega),if_neg (by omega),seqN_one]
theorem node_6n (hf:f.kind=6)(hg:g.kind=6)(hn:f.n≠g.n)(us bs:List Tm):zK step zQ s f us g bs m=some none:=by
 unfold zK;rw [if_neg (by omega),if_neg (by omega),if_neg (by omega),if_pos hf,if_pos hn]
theorem node_6 (hf:f.kind=6)(hg:g.kind=6)(hn:f.n=g.n)(a b:Tm):zK step zQ s f [a] g [b] m=step s a b (Uni.inner m):=by
 unfold zK;rw [if_neg (by omega),if_neg (by omega),if_neg (by omega),if_pos hf,if_neg (by omega),seqN_one]
theorem node_7 (hf:f.kind=7)(hg:g.kind=7)(a b a' b':Tm):zK step zQ s f [a,a'] g [b,b'] m=match step s a b (Uni.inner m) with | some (some s')=>step s' a' b' (Uni.inner m) | q=>q:=by
 unfold zK;rw [if_neg (by omega),if_neg (by omega),if_neg (by omega),if_neg (by omega),if_neg (by omega),if_neg (by omega),if_neg (by omega),seqN_two]
theorem node_8n (hf:f.kind=8)(hg:g.kind=8)(hn:m= .exact/\f.n≠g.n)(us bs:List Tm):zK step zQ s f us g bs m=some none:=by
 unfold zK;rw [if_neg (by omega),if_neg (by omega),if_neg (by omega),if_neg (by omega),if_pos hf,if_pos hn]
theorem node_8 (hf:f.kind=8)(hg:g.kind=8)(hn: ¬(m= .exact/\f.n≠g.n))(a b:Tm):zK step zQ s f [a] g [b] m=step s a b (Uni.inner m):=by
 unfold zK;rw [if_neg (by omega),if_neg (by omega),if_neg (by omega),if_neg (by omega),if_pos hf,if_neg hn,seqN_one]
end
end Go.Proofs.YtpekidjfbinekaaGreatDoor
