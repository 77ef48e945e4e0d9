/- C0, C1 -/
import Derived.Deep.DeepHandedRow
import Derived.Deep.Slices
import Derived.OpenShut
import Derived.SizedLaws
import Derived.WalkKit
import Derived.ProofKit
import Derived.Carry
import Derived.Lib.LaidTab
import Derived.Test.YtpekidjfbinekaaGreatDoorRows
import Derived.Test.YtpekidjfbinekaaGreatDoorE41
set_option maxRecDepth 100000
set_option maxHeartbeats 60000000
set_option linter.all false
namespace Go.Proofs.YtpekidjfbinekaaGreatDoor
open Go.RowKit Uni Go.ChangeShapes Go.WideShapes Go.ChangeAt
theorem s26:(match Tryz.prog.underlying 26 with | some (.struct fs)=>some (fs.toList.map (fun f=>(f.type,f.offset))) | _=>none)=some [(23,0),(3,1),(3,2),(4,3),(24,4),(9,5)]:=by kernel_rfl
theorem u24:Tryz.prog.underlying 24=some (.slice 26):=by kernel_rfl
theorem u23:Tryz.prog.underlying 23=some (.int .i64):=by kernel_rfl
theorem u3:Tryz.prog.underlying 3=some (.int .i64):=by kernel_rfl
theorem u4:Tryz.prog.underlying 4=some .bool:=by kernel_rfl
theorem u9:Tryz.prog.underlying 9=some .string:=by kernel_rfl
theorem c26:Tryz.prog.cellsOf 26=6:=by kernel_rfl
theorem b26:Tryz.prog.bytesOf 26=72:=by kernel_rfl
theorem c23:Tryz.prog.cellsOf 23=1:=by kernel_rfl
theorem c3:Tryz.prog.cellsOf 3=1:=by kernel_rfl
theorem c4:Tryz.prog.cellsOf 4=1:=by kernel_rfl
theorem c24:Tryz.prog.cellsOf 24=1:=by kernel_rfl
theorem c9:Tryz.prog.cellsOf 9=1:=by kernel_rfl
theorem six_of {α β:Type}{g:α->β}{l:List α}{b0 b1 b2 b3 b4 b5:β}(h:l.map g= [b0,b1,b2,b3,b4,b5]): ∃f0 f1 f2 f3 f4 f5,l= [f0,f1,f2,f3,f4,f5]/\g f0=b0/\g f1=b1/\g f2=b2/\g f3=b3/\g f4=b4/\g f5=b5:=by
 rcases l with _ | ⟨f0,_ | ⟨f1,_ | ⟨f2,_ | ⟨f3,_ | ⟨f4,_ | ⟨f5,_ | ⟨f6,l⟩⟩⟩⟩⟩⟩⟩ <;>simp at h
 obtain ⟨a0,a1,a2,a3,a4,a5⟩:=h;exact ⟨f0,f1,f2,f3,f4,f5,rfl,a0,a1,a2,a3,a4,a5⟩
theorem f26: ∃(fs:Array Field)(f0 f1 f2 f3 f4 f5:Field),Tryz.prog.underlying 26=some (.struct fs)/\fs.toList= [f0,f1,f2,f3,f4,f5]/\(f0.type,f0.offset)=(23,0)/\(f1.type,f1.offset)=(3,1)/\(f2.type,f2.offset)=(3,2)/\
 (f3.type,f3.offset)=(4,3)/\(f4.type,f4.offset)=(24,4)/\(f5.type,f5.offset)=(9,5):=by
 have h:=s26
 split at h
 ·rename_i fs hfs
  have h':=Option.some.inj h;obtain ⟨f0,f1,f2,f3,f4,f5,hl,a⟩:=six_of h';exact ⟨fs,f0,f1,f2,f3,f4,f5,hfs,hl,a⟩
 ·cases h
section
variable {H:Type}{enc:TypeId × Value->H}{W:World}{sp:Nat->Bool}{hd:Bool}
theorem open_i64 {t:TypeId}(ht:Tryz.prog.underlying t=some (.int .i64)){fuel:Nat}{c:Value}{x:DataW H × List MemPlace}(h:DataW.trod enc Tryz.prog W 0 sp hd fuel t [c]=some x): ∃z,c= .int .i64 z:=by
 cases fuel with
 |zero=>cases h
 |succ n=>
  unfold DataW.trod at h;simp only [ht] at h;cases c <;>simp at h
  obtain ⟨⟨rfl,_⟩,_⟩:=h;exact ⟨_,rfl⟩
theorem open_b {fuel:Nat}{c:Value}{x:DataW H × List MemPlace}(h:DataW.trod enc Tryz.prog W 0 sp hd fuel 4 [c]=some x): ∃z,c= .bool z:=by
 cases fuel with
 |zero=>cases h
 |succ n=>
  unfold DataW.trod at h;simp only [u4] at h;cases c <;>simp at h
  exact ⟨_,rfl⟩
theorem open_s {fuel:Nat}{c:Value}{x:DataW H × List MemPlace}(h:DataW.trod enc Tryz.prog W 0 sp hd fuel 9 [c]=some x): ∃z,c= .string z:=by
 cases fuel with
 |zero=>cases h
 |succ n=>
  unfold DataW.trod at h;simp only [u9] at h;cases c <;>simp at h
  exact ⟨_,rfl⟩
theorem mapM_all {α β:Type}{g:α->Option β}: ∀ {l:List α}{r:List β},l.mapM g=some r->r.length=l.length/\ ∀(i:Nat)(a:α),l[i]?=some a-> ∃b,g a=some b/\r[i]?=some b
 |[],r,h=>by
  simp at h;subst h;exact ⟨rfl,fun i a h=>by simp at h⟩
 |a::l,r,h=>by
  rw [List.mapM_cons] at h
  cases ha:g a with
  |none=>rw [ha] at h;cases h
  |some b=>
   rw [ha] at h
   cases hl:l.mapM g with
   |none=>rw [hl] at h;cases h
   |some bs=>
    rw [hl] at h;cases h
    obtain ⟨h1,h2⟩:=mapM_all hl;refine ⟨by simp [h1],fun i a' h'=> ?_⟩
    cases i with
    |zero=>simp at h';subst h';exact ⟨b,ha,rfl⟩
    |succ i=>obtain ⟨b',h3,h4⟩:=h2 i a' (by simpa using h');exact ⟨b',h3,by simpa using h4⟩
theorem open_sl {t e:TypeId}(ht:Tryz.prog.underlying t=some (.slice e)){m:Nat}{c:Value}{x:DataW H × List MemPlace}(h:DataW.trod enc Tryz.prog W 0 sp hd (m + 1) t [c]=some x):
 (c= .slice none 0 0)∨ ∃(a:Addr) (len cap:Nat) (ys rs:List (DataW H × List MemPlace)),c= .slice (some a) len cap∧len≤cap∧cap≤maxLen∧x.1= .slice (ys.map (·.1)) (rs.map (·.1))∧ys.length=len∧
  ∀i,i < len-> ∃cs' y,W.cells? 0 (a.add (i * Tryz.prog.cellsOf e)) (Tryz.prog.cellsOf e)=some cs'/\DataW.trod enc Tryz.prog W 0 sp hd m e cs'=some y/\ys[i]?=some y:=by
 unfold DataW.trod at h;simp only [ht] at h
 cases c with
 |slice a len cap=>
  cases a with
  |none=>
   refine .inl ?_;rcases len with _ | len <;>rcases cap with _ | cap <;>first | rfl | (simp at h)
  |some a=>
   refine .inr ?_;simp only at h
   split at h
   ·rename_i hb
    simp only [Option.map_eq_some_iff,Option.bind_eq_some_iff] at h;obtain ⟨ys,hy,rs,hr,rfl⟩:=h;obtain ⟨h1,h2⟩:=mapM_all hy;refine ⟨a,len,cap,ys,rs,rfl,hb.2.1,hb.2.2,rfl,by simpa using h1,fun i hi=> ?_⟩;obtain ⟨y,h3,h4⟩:=h2 i i (by simp [hi]);simp only [Option.bind_eq_some_iff] at h3;obtain ⟨cs',h5,h6⟩:=h3;exact ⟨cs',y,h5,h6,h4⟩
   ·cases h
 |_=>simp at h
theorem open26 {m:Nat}{cs:List Value}{x:DataW H × List MemPlace}(h:DataW.trod enc Tryz.prog W 0 sp hd (m + 1) 26 cs=some x):
 ∃(v0 v1 v2 v3 v4 v5:Value) (y0 y1 y2 y3 y4 y5:DataW H × List MemPlace),cs= [v0,v1,v2,v3,v4,v5]∧DataW.trod enc Tryz.prog W 0 sp hd m 23 [v0]=some y0∧DataW.trod enc Tryz.prog W 0 sp hd m 3 [v1]=some y1∧
  DataW.trod enc Tryz.prog W 0 sp hd m 3 [v2]=some y2/\DataW.trod enc Tryz.prog W 0 sp hd m 4 [v3]=some y3/\DataW.trod enc Tryz.prog W 0 sp hd m 24 [v4]=some y4/\DataW.trod enc Tryz.prog W 0 sp hd m 9 [v5]=some y5/\
  x.1= .agg [y0.1,y1.1,y2.1,y3.1,y4.1,y5.1]:=by
 obtain ⟨fs,f0,f1,f2,f3,f4,f5,hfs,hl,e0,e1,e2,e3,e4,e5⟩:=f26;unfold DataW.trod at h;simp only [hfs,c26] at h
 split at h
 ·rename_i hlen
  simp only [Option.map_eq_some_iff] at h;obtain ⟨xs,hxs,rfl⟩:=h;obtain ⟨h1,h2⟩:=mapM_all hxs;rw [hl] at h1 h2;have e:(cs.map id).length=6:=by simpa using hlen
  rcases cs with _ | ⟨v0,_ | ⟨v1,_ | ⟨v2,_ | ⟨v3,_ | ⟨v4,_ | ⟨v5,_ | ⟨v6,l⟩⟩⟩⟩⟩⟩⟩ <;>simp at hlen
  simp only [Prod.mk.injEq] at e0 e1 e2 e3 e4 e5;obtain ⟨y0,g0,k0⟩:=h2 0 f0 rfl;obtain ⟨y1,g1,k1⟩:=h2 1 f1 rfl;obtain ⟨y2,g2,k2⟩:=h2 2 f2 rfl;obtain ⟨y3,g3,k3⟩:=h2 3 f3 rfl;obtain ⟨y4,g4,k4⟩:=h2 4 f4 rfl;obtain ⟨y5,g5,k5⟩:=h2 5 f5 rfl;rw [e0.1,e0.2,c23] at g0;rw [e1.1,e1.2,c3] at g1;rw [e2.1,e2.2,c3] at g2;rw [e3.1,e3.2,c4] at g3;rw [e4.1,e4.2,c24] at g4;rw [e5.1,e5.2,c9] at g5;refine ⟨v0,v1,v2,v3,v4,v5,y0,y1,y2,y3,y4,y5,rfl,g0,g1,g2,g3,g4,g5,?_⟩
  rcases xs with _ | ⟨z0,_ | ⟨z1,_ | ⟨z2,_ | ⟨z3,_ | ⟨z4,_ | ⟨z5,_ | ⟨z6,l⟩⟩⟩⟩⟩⟩⟩ <;>simp at h1
  simp at k0 k1 k2 k3 k4 k5;subst k0 k1 k2 k3 k4 k5;rfl
 ·cases h
theorem cells_at {a:Addr}{n:Nat}{cs:List Value}(h:W.cells? 0 a n=some cs)(i:Nat)(c:Value)(hc:cs[i]?=some c):W.cell? (a.add i)=some c:=by
 unfold World.cells? at h;rw [if_pos (Nat.zero_le _)] at h;obtain ⟨h1,h2⟩:=mapM_all h;have hi:i < n:=by have:=(List.getElem?_eq_some_iff.mp hc).1;simp at h1;omega
 obtain ⟨b,h3,h4⟩:=h2 i i (by simp [hi]);rw [h3,<-h4,hc]
theorem w_part {parts:List (DataW H)}{d:DataW H}(hd:parts[4]?=some d): ∀n∈d.weights Tryz.prog 24,n∈(DataW.agg parts).weights Tryz.prog 26:=by
 intro n hn;obtain ⟨fs,f0,f1,f2,f3,f4,f5,hfs,hl,e0,e1,e2,e3,e4,e5⟩:=f26;simp only [Prod.mk.injEq] at e4;unfold DataW.weights;simp only [hfs];exact DataW.weights_mem_each (j:=4) (t:=24) (by rw [hl];simp [e4.1]) hd n hn
theorem w_all {e:TypeId}: ∀ {ds:List (DataW H)}{i:Nat}{d:DataW H},ds[i]?=some d-> ∀n∈d.weights Tryz.prog e,n∈DataW.weightsAll Tryz.prog e ds
 |[],i,d,h=>by simp at h
 |d0::ds,0,d,h=>fun n hn=>by simp at h;subst h;simp only [DataW.weightsAll,List.mem_append];exact .inl hn
 |d0::ds,i + 1,d,h=>fun n hn=>by simp only [DataW.weightsAll,List.mem_append];exact .inr (w_all (by simpa using h) n hn)
theorem w_slice {t e:TypeId}(ht:Tryz.prog.underlying t=some (.slice e))(es rs:List (DataW H)):(DataW.slice es rs).weights Tryz.prog t=(es.length + rs.length) * Tryz.prog.bytesOf e::(DataW.weightsAll Tryz.prog e es ++ DataW.weightsAll Tryz.prog e rs):=by
 conv=>lhs;unfold DataW.weights
 simp only [ht]
theorem elem_spot {a:Addr}{T:TyV}(h:W.cells? 0 (a.add (0 * 6)) 6=some (zW T)): ∃b off,a=⟨b,off,none⟩:=by
 have c:=World.cell?_spot (cells_at h 0 _ rfl);obtain ⟨b,off,spot⟩:=a;have hs:spot=none:=by simpa [Addr.add] using c
 subst hs;exact ⟨b,off,rfl⟩
theorem elem_at {b off:Nat}{i:Nat}{T:TyV}(h:W.cells? 0 ((⟨b,off,none⟩:Addr).add (i * 6)) 6=some (zW T)):Elem6 W F0 b off i T:=by
 have c:=fun j v (hv:(zW T)[j]?=some v)=>cells_at h j v hv
 simp only [add_plain] at c;exact ⟨id,c 0 _ rfl,c 1 _ rfl,c 2 _ rfl,c 3 _ rfl,c 4 _ rfl,c 5 _ rfl⟩
theorem open_ty: ∀(fuel:Nat)(cs:List Value)(x:DataW H × List MemPlace),DataW.trod enc Tryz.prog W 0 sp hd fuel 26 cs=some x->(∀n∈x.1.weights Tryz.prog 26,n<=reachBytes)-> ∃T:TyV,cs=zW T/\Raw W T:=by
 intro fuel
 induction fuel using Nat.strongRecOn with
 |ind fuel ih=>
  intro cs x h hw
  cases fuel with
  |zero=>cases h
  |succ m=>
   obtain ⟨v0,v1,v2,v3,v4,v5,y0,y1,y2,y3,y4,y5,rfl,g0,g1,g2,g3,g4,g5,hx⟩:=open26 h;obtain ⟨k,rfl⟩:=open_i64 u23 g0;obtain ⟨n,rfl⟩:=open_i64 u3 g1;obtain ⟨c,rfl⟩:=open_i64 u3 g2;obtain ⟨v,rfl⟩:=open_b g3;obtain ⟨nm,rfl⟩:=open_s g5
   cases m with
   |zero=>cases g4
   |succ m=>
    rcases open_sl u24 g4 with rfl | ⟨a,len,cap,es,rs,rfl,hlc,hcm,he,hel,hes⟩
    ·exact ⟨⟨k,n,c,v,none,0,0,nm⟩,rfl,.mk _ [] ⟨.inl rfl,rfl,Nat.le_refl _,Nat.zero_le _,Nat.zero_le _⟩ (fun i y h=>by simp at h)⟩
    ·have hw4: ∀n∈y4.1.weights Tryz.prog 24,n≤reachBytes:=fun n hn=>hw n (by rw [hx];exact w_part rfl n hn)
     rw [he,w_slice u24,b26] at hw4;have hlen:=hw4 _ (List.mem_cons_self ..);simp only [List.length_map,hel,reachBytes] at hlen;have hlen':len<=1954687338211:=by omega
     have hpick: ∀(i:Nat) (j:Nat),(List.range len)[i]?=some j→ ∃T:TyV,W.cells? 0 (a.add (j * 6)) 6=some (zW T)∧Raw W T:=by
      intro i j hj
      have hjl:j < len:=by
       have:=List.mem_of_getElem? hj;simpa using this
      obtain ⟨cs',y,h1,h2,h3⟩:=hes j hjl;rw [c26] at h1;obtain ⟨T,rfl,hT⟩:=ih m (by omega) cs' y h2 (fun n hn=>hw4 n (List.mem_cons_of_mem _ (List.mem_append_left _ (w_all (i:=j) (by simp [h3]) n hn))));exact ⟨T,h1,hT⟩
     obtain ⟨Ts,hTl,hTs⟩:=pick_list (List.range len) hpick;simp at hTl
     have hT: ∀(i:Nat) (T:TyV),Ts[i]?=some T→W.cells? 0 (a.add (i * 6)) 6=some (zW T)∧Raw W T:=by
      intro i T hi;have hil:i < len:=by have:=(List.getElem?_eq_some_iff.mp hi).1;omega
      exact hTs i i T (by simp [hil]) hi
     refine ⟨⟨k,n,c,v,some a,len,cap,nm⟩,rfl,.mk _ Ts ⟨?_,hTl,hlc,hlen',hcm⟩ (fun i y hy=>(hT i y hy).2)⟩
     cases hTs0:Ts with
     |nil=>exact .inl rfl
     |cons T0 Tr=>
      obtain ⟨b,off,rfl⟩:=elem_spot (hT 0 T0 (by simp [hTs0])).1;exact .inr ⟨b,off,rfl,fun i y hy=>elem_at (hT i y (by rw [hTs0];exact hy)).1⟩
theorem s56:(match Tryz.prog.underlying 56 with | some (.struct fs)=>some (fs.toList.map (fun f=>(f.type,f.offset))) | _=>none)=some [(3,0),(26,1)]:=by kernel_rfl
theorem u22:Tryz.prog.underlying 22=some (.slice 56):=by kernel_rfl
theorem c56:Tryz.prog.cellsOf 56=7:=by kernel_rfl
theorem f56: ∃(fs:Array Field)(f0 f1:Field),Tryz.prog.underlying 56=some (.struct fs)/\fs.toList= [f0,f1]/\(f0.type,f0.offset)=(3,0)/\(f1.type,f1.offset)=(26,1):=by
 have h:=s56
 split at h
 ·rename_i fs hfs
  have h':=Option.some.inj h;generalize hl:fs.toList=l at h';rcases l with _ | ⟨f0,_ | ⟨f1,_ | ⟨f2,l⟩⟩⟩ <;>simp at h'
  exact ⟨fs,f0,f1,hfs,hl,by simp [h'],by simp [h']⟩
 ·cases h
theorem open56 {m:Nat}{cs:List Value}{x:DataW H × List MemPlace}(h:DataW.trod enc Tryz.prog W 0 sp hd (m + 1) 56 cs=some x):
 ∃(v0:Value) (cs':List Value) (y0 y1:DataW H × List MemPlace),cs=v0::cs'/\DataW.trod enc Tryz.prog W 0 sp hd m 3 [v0]=some y0/\DataW.trod enc Tryz.prog W 0 sp hd m 26 cs'=some y1/\x.1= .agg [y0.1,y1.1]:=by
 obtain ⟨fs,f0,f1,hfs,hl,e0,e1⟩:=f56;unfold DataW.trod at h;simp only [hfs,c56] at h
 split at h
 ·rename_i hlen
  simp only [Option.map_eq_some_iff] at h;obtain ⟨xs,hxs,rfl⟩:=h;obtain ⟨h1,h2⟩:=mapM_all hxs;rw [hl] at h1 h2;rcases cs with _ | ⟨v0,cs'⟩
  ·simp at hlen
  simp at hlen;simp only [Prod.mk.injEq] at e0 e1;obtain ⟨y0,g0,k0⟩:=h2 0 f0 rfl;obtain ⟨y1,g1,k1⟩:=h2 1 f1 rfl;rw [e0.1,e0.2,c3] at g0;rw [e1.1,e1.2,c26] at g1;have e:List.take 6 (List.drop 1 (v0::cs'))=cs':=List.take_of_length_le (by simp;omega);rw [e] at g1;refine ⟨v0,cs',y0,y1,rfl,g0,g1,?_⟩;rcases xs with _ | ⟨z0,_ | ⟨z1,_ | ⟨z2,l⟩⟩⟩ <;>simp at h1
  simp at k0 k1;subst k0 k1;rfl
 ·cases h
theorem w_part56 {parts:List (DataW H)}{d:DataW H}(hd:parts[1]?=some d): ∀n∈d.weights Tryz.prog 26,n∈(DataW.agg parts).weights Tryz.prog 56:=by
 intro n hn;obtain ⟨fs,f0,f1,hfs,hl,e0,e1⟩:=f56;simp only [Prod.mk.injEq] at e1;unfold DataW.weights;simp only [hfs];exact DataW.weights_mem_each (j:=1) (t:=26) (by rw [hl];simp [e1.1]) hd n hn
theorem open_decls {fuel:Nat}{c:Value}{x:DataW H × List MemPlace}(h:DataW.trod enc Tryz.prog W 0 sp hd fuel 22 [c]=some x)(hw: ∀n∈x.1.weights Tryz.prog 22,n<=reachBytes):
 ∃(da:Option Addr) (dl dc:Nat) (ps:List (Int × TyV)),c= .slice da dl dc/\RawD W da dl dc ps:=by
 cases fuel with
 |zero=>cases h
 |succ m=>
  rcases open_sl u22 h with rfl | ⟨a,len,cap,es,rs,rfl,hlc,hcm,he,hel,hes⟩
  ·exact ⟨none,0,0,[],rfl,.inl rfl,rfl,fun i p hp=>by simp at hp,Nat.le_refl _,Nat.zero_le _⟩
  ·rw [he,w_slice u22] at hw
   have hpick: ∀(i:Nat) (j:Nat),(List.range len)[i]?=some j→ ∃p:Int × TyV,W.cells? 0 (a.add (j * 7)) 7=some (.int .i64 p.1::zW p.2)∧Raw W p.2:=by
    intro i j hj
    have hjl:j < len:=by
     have:=List.mem_of_getElem? hj;simpa using this
    obtain ⟨cs',y,h1,h2,h3⟩:=hes j hjl;rw [c56] at h1
    cases m with
    |zero=>cases h2
    |succ m=>
     obtain ⟨v0,cs6,y0,y1,rfl,g0,g1,hx⟩:=open56 h2;obtain ⟨z,rfl⟩:=open_i64 u3 g0;obtain ⟨T,rfl,hT⟩:=open_ty _ _ _ g1 (fun n hn=>hw n (List.mem_cons_of_mem _ (List.mem_append_left _ (w_all (i:=j) (d:=y.1) (by simp [h3]) n (by rw [hx];exact w_part56 rfl n hn)))));exact ⟨(z,T),h1,hT⟩
   obtain ⟨ps,hTl,hTs⟩:=pick_list (List.range len) hpick;simp at hTl
   have hT: ∀(i:Nat) (p:Int × TyV),ps[i]?=some p→W.cells? 0 (a.add (i * 7)) 7=some (.int .i64 p.1::zW p.2)∧Raw W p.2:=by
    intro i p hi;have hil:i < len:=by have:=(List.getElem?_eq_some_iff.mp hi).1;omega
    exact hTs i i p (by simp [hil]) hi
   refine ⟨some a,len,cap,ps,rfl,?_,hTl,fun i p hp=>(hT i p hp).2,hlc,hcm⟩
   cases hps:ps with
   |nil=>rw [hps] at hTl;exact .inl hTl.symm
   |cons p0 pr=>
    obtain ⟨b,off,rfl⟩: ∃b off,a=⟨b,off,none⟩:=by
     have c:=World.cell?_spot (cells_at (hT 0 p0 (by simp [hps])).1 0 _ rfl);obtain ⟨b,off,spot⟩:=a;have hs:spot=none:=by simpa [Addr.add] using c
     subst hs;exact ⟨b,off,rfl⟩
    refine .inr ⟨b,off,rfl,fun i p hp=> ?_⟩;rw [<-hps] at hp;have c:=fun j v (hv:((Value.int .i64 p.1::zW p.2):List Value)[j]?=some v)=>cells_at (hT i p hp).1 j v hv
    simp only [add_plain] at c;exact ⟨c 0 _ rfl,c 1 _ rfl,c 2 _ rfl,c 3 _ rfl,c 4 _ rfl,c 5 _ rfl,c 6 _ rfl⟩
end
end Go.Proofs.YtpekidjfbinekaaGreatDoor
namespace Go.Proofs.YtpekidjfbinekaaGreatDoor

set_option maxRecDepth 100000
open Go.ChangeShapes Go.WideShapes Go.ChangeAt Go.RowKit Uni
def litsOf:DataW Unit→List Int
 |.agg l=>l.map fun | .lit (.int _ z)=>z | _=>0
 |_=> []
theorem props_tab:(Rows.laid_unicode_properties:DataW Unit)=Lib.tabData .u8 (litsOf Rows.laid_unicode_properties):=by kernel_rfl
theorem props_len:(litsOf Rows.laid_unicode_properties).length=256:=by kernel_rfl
theorem props_at:Tryz.prog.globalNamed "unicode.properties" =some 0:=by kernel_rfl
theorem props_type:(match (Tryz.prog.globals[0]?).map (·.type) with | some t=>some (Tryz.prog.underlying t,Tryz.prog.cellsOf t) | none=>none)=some (some (.array 256 5),256):=by kernel_rfl
theorem tab_ok {a:String}{da:DataW Unit}{rest:List (String × DataW Unit)}{W:World}(h:laidMet Tryz.prog ((a,da)::("unicode.properties",Rows.laid_unicode_properties)::rest) W):TabOk W:=by
 obtain ⟨ps,⟨_,_,_,_,_,q,_,_,_,_,hq,_⟩,_⟩:=h
 have h2:Lib.TabIs Tryz.prog W "unicode.properties" .u8 (litsOf Rows.laid_unicode_properties):=by
  obtain ⟨g',t',cs,fuel,p,q',hg',ht',hvar,hd,_,_⟩:=hq;obtain rfl:=Option.some.inj (props_at.symm.trans hg');have hp:=props_type;rw [ht'] at hp;obtain ⟨h3,h4⟩:=Prod.mk.inj (Option.some.inj hp);unfold Lib.TabIs;rw [props_tab] at hd;rw [hvar,<-Lib.cells_of_tab h3 (by kernel_rfl) (by kernel_rfl) h4 hd]
 intro c h3 h4;exact ⟨_,h2.cell props_at c (by rw [props_len];omega)⟩
def ArgOk (W:World)(t:TypeId)(v:Value):Prop:=
 (t=22/\ ∃da dl dc ps,v= .slice da dl dc/\RawD W da dl dc ps)\/(t=3/\ ∃n,v= .int .i64 n)\/(t=26/\ ∃x:TyV,v=x.val/\Raw W x)
section
variable {H:Type}{enc:TypeId × Value->H}
theorem arg_open {W:World}{t:TypeId}{v:Value}{d:DataW H}{p:List MemPlace}{base:Nat}(ht:t=22\/t=3\/t=26)(hv:Value.okWide Tryz.prog W .any base t v)
 (h:DataW.Trod enc Tryz.prog W 0 (fun _=>true) true t v d p) (hw: ∀n∈d.weights Tryz.prog t,n<=reachBytes):ArgOk W t v:=by
 obtain ⟨fuel,hf⟩:=h;rcases ht with rfl | rfl | rfl
 ·obtain ⟨a,len,cap,rfl⟩:=okWide_slice u22 hv
  obtain ⟨da,dl,dc,ps,e,hr⟩:=open_decls hf hw;exact .inl ⟨rfl,_,_,_,ps,e,hr⟩
 ·obtain ⟨n,rfl⟩:=okWide_int u3 hv
  exact .inr (.inl ⟨rfl,n,rfl⟩)
 ·obtain ⟨fs,_,_,_,_,_,_,hfs,_⟩:=f26
  obtain ⟨cs,rfl,_⟩:=okWide_struct hfs hv;obtain ⟨T,hT,hr⟩:=open_ty fuel _ _ hf hw;refine .inr (.inr ⟨rfl,T,?_,hr⟩);unfold TyV.val
  congr 1
  exact Array.ext' hT
theorem args_open {W:World}{base:Nat}: ∀(ts:List TypeId)(vs:List Value)(ds:List (DataW H))(p:List MemPlace),(∀t∈ts,t=22\/t=3\/t=26)->DataW.TrodAll enc Tryz.prog W 0 (fun _=>true) true ts vs ds p->
 (∀(j:Nat) t v,ts[j]?=some t->vs[j]?=some v->Value.okWide Tryz.prog W .any base t v)->(∀n∈DataW.weightsEach Tryz.prog ts ds,n<=reachBytes)->
 vs.length=ts.length/\ds.length=ts.length/\ ∀(j:Nat) t v,ts[j]?=some t->vs[j]?=some v->ArgOk W t v
 |[],vs,ds,p,_,h,_,_=>by
  obtain ⟨rfl,rfl,_⟩:=trodAll_nil h;exact ⟨rfl,rfl,fun j t v h=>by simp at h⟩
 |t::ts,vs,ds,p,ht,h,hv,hw=>by
  obtain ⟨v,vs',d,ds',p1,q1,rfl,rfl,_,h1,h2⟩:=trodAll_cons h;obtain ⟨l1,l2,h3⟩:=args_open ts vs' ds' q1 (fun t h=>ht t (by simp [h])) h2 (fun j t v h h'=>hv (j + 1) t v (by simpa using h) (by simpa using h')) (fun n hn=>hw n (by simp only [DataW.weightsEach,List.mem_append];exact .inr hn));refine ⟨by simp [l1],by simp [l2],fun j t' v' hj hj'=> ?_⟩
  cases j with
  |zero=>cases hj;cases hj';exact arg_open (ht t (by simp)) (hv 0 t v rfl rfl) h1 (fun n hn=>hw n (by simp only [DataW.weightsEach,List.mem_append];exact .inl hn))
  |succ j=>exact h3 j t' v' (by simpa using hj) (by simpa using hj')
theorem laidOut:laidOutB Tryz.prog=true:=by kernel_rfl
theorem readable {t:TypeId}(ht:t=22\/t=3\/t=26):Tryz.prog.readableRec t=true/\t < Tryz.prog.types.size:=by
 rcases ht with rfl | rfl | rfl <;>exact ⟨by kernel_rfl,of_decide_eq_true (by kernel_rfl)⟩
theorem args_again {W W':World}(hb:Below W.heap.size W W'): ∀(ts:List TypeId)(vs:List Value)(ds:List (DataW H))(p:List MemPlace),(∀t∈ts,t=22\/t=3\/t=26)->DataW.TrodAll enc Tryz.prog W 0 (fun _=>true) true ts vs ds p->
 (∀x∈p,x.block < W.heap.size)->DataW.TrodAll enc Tryz.prog W' 0 (fun b=>decide (b < W.heap.size)) true ts vs ds p
 |[],vs,ds,p,_,h,_=>by
  obtain ⟨rfl,rfl,rfl⟩:=trodAll_nil h;rfl
 |t::ts,vs,ds,p,ht,h,hp=>by
  obtain ⟨v,vs',d,ds',p1,q1,rfl,rfl,rfl,h1,h2⟩:=trodAll_cons h;exact ⟨p1,q1,Below.trod laidOut (readable (ht t (by simp))).1 (readable (ht t (by simp))).2 h1 hb (fun x hx=>hp x (by simp [hx])),args_again hb ts vs' ds' q1 (fun t h=>ht t (by simp [h])) h2 (fun x hx=>hp x (by simp [hx])),rfl⟩
theorem kept_of_fr {w w':World}(f:Fr F0 w w')(may:MemPlace->Prop):w.keptBut w' may:=by
 refine ⟨f.os,f.output,fun i hi=> ?_⟩;rw [f.block i hi id]
 split <;>simp_all
theorem law_post {f:FuncId}{fn:Func}{s:ChangeSpec}(hs:s.vars= [])(hp: ∀t∈fn.params.toList,t=22\/t=3\/t=26)(hr:fn.resultTypes= #[4])
 (hfn: ∀ds:List (DataW H),ds.length=fn.params.toList.length->s.fn H ds= {results:= [.lit (.bool true)],args:=ds}) {W:World} {base:Nat} {args:Array Value} {ds gs:List (DataW H)} {before:List MemPlace}
 (hval: ∀(j:Nat) t v,fn.params[j]?=some t->args[j]?=some v->Value.okWide Tryz.prog W .any base t v) (hW:DataW.Whole enc Tryz.prog fn.params.toList s.vars false W args.toList ds gs before)
 (hsz:(DataW.weightsEach Tryz.prog (fn.params.toList ++ (OpenSpec.ofChange s).bare.plain.varTypes Tryz.prog) (ds ++ gs)).all (· <=reachBytes)=true) (hL:TabOk W)
 (walk:TabOk W->args.toList.length=fn.params.toList.length->(∀(j:Nat) t v,fn.params.toList[j]?=some t->args.toList[j]?=some v->ArgOk W t v)->Calls Tryz.prog f args W (YesB W)):
 Calls Tryz.prog f args W fun e W'=> ∃v,e= .returned v/\s.post enc Tryz.prog fn false true false false W args v W':=by
 have hW':=hW;obtain ⟨p,q,hA,hV,rfl,_,_⟩:=hW;rw [hs] at hV;obtain ⟨rfl,rfl⟩:=trodVars_none hV
 have hsz': ∀n∈DataW.weightsEach Tryz.prog fn.params.toList ds,n≤reachBytes:=by
  intro n hn
  have h1:n∈DataW.weightsEach Tryz.prog (fn.params.toList ++ (OpenSpec.ofChange s).bare.plain.varTypes Tryz.prog) (ds ++ []):=by
   rw [List.append_nil];clear hsz hA hfn walk hW';revert n
   induction fn.params.toList generalizing ds with
   |nil=>intro n hn;simp [DataW.weightsEach] at hn
   |cons t ts ih=>
    intro n hn
    cases ds with
    |nil=>simp [DataW.weightsEach] at hn
    |cons d ds=>
     simp only [DataW.weightsEach,List.cons_append,List.mem_append] at hn ⊢;exact hn.imp id fun h=>ih n h
  simpa using List.all_eq_true.mp hsz n h1
 obtain ⟨l1,l2,ho⟩:=args_open fn.params.toList args.toList ds p hp hA (fun j t v h h'=>hval j t v (by simpa using h) (by simpa using h')) hsz';refine (walk hL l1 ho).mono fun e W' ⟨he,hf⟩=> ?_
 refine ⟨_,he,ds,[],p ++ [],[],p,[],hW',?_,?_,?_,kept_of_fr hf _,fun h=>by cases h⟩
 ·rw [List.append_nil,hfn ds l2,hr]
  exact trodAll_cons_mk (shut_bool u4 _) trodAll_mk0
 ·rw [List.append_nil,hfn ds l2]
  exact args_again ⟨hf.os,hf.tape,hf.output,hf.size,fun k hk=>hf.block k hk id⟩ _ _ _ _ hp hA (fun x hx=>hW'.lt x (by simp [hx]))
 ·rw [List.append_nil,hfn ds l2,hs]
  rfl
end
theorem arg22 {W:World}{v:Value}(h:ArgOk W 22 v): ∃da dl dc,v= .slice da dl dc/\ ∃ps,RawD W da dl dc ps:=by
 rcases h with ⟨_,da,dl,dc,ps,e,h⟩ | ⟨h,_⟩ | ⟨h,_⟩
 ·exact ⟨da,dl,dc,e,ps,h⟩
 ·cases h
 ·cases h
theorem arg3 {W:World}{v:Value}(h:ArgOk W 3 v): ∃n,v= .int .i64 n:=by
 rcases h with ⟨h,_⟩ | ⟨_,n,e⟩ | ⟨h,_⟩
 ·cases h
 ·exact ⟨n,e⟩
 ·cases h
theorem arg26 {W:World}{v:Value}(h:ArgOk W 26 v): ∃x:TyV,v=x.val/\Raw W x:=by
 rcases h with ⟨h,_⟩ | ⟨h,_⟩ | ⟨_,x,e,h⟩
 ·cases h
 ·cases h
 ·exact ⟨x,e,h⟩
theorem args_four {W:World}{args:Array Value}(ht:TabOk W)(hl:args.toList.length=4)(ha: ∀(j:Nat) t v,[22,3,26,26][j]?=some t->args.toList[j]?=some v->ArgOk W t v):
 ∃da dl dc n x y,args= #[.slice da dl dc,.int .i64 n,TyV.val x,TyV.val y]/\ArgIn W da dl dc/\Raw W x/\Raw W y:=by
 obtain ⟨l⟩:=args;rcases l with _ | ⟨v0,_ | ⟨v1,_ | ⟨v2,_ | ⟨v3,_ | ⟨v4,l⟩⟩⟩⟩⟩ <;>simp at hl
 obtain ⟨da,dl,dc,rfl,hd⟩:=arg22 (ha 0 22 v0 rfl rfl);obtain ⟨n,rfl⟩:=arg3 (ha 1 3 v1 rfl rfl);obtain ⟨x,rfl,hx⟩:=arg26 (ha 2 26 v2 rfl rfl);obtain ⟨y,rfl,hy⟩:=arg26 (ha 3 26 v3 rfl rfl);exact ⟨da,dl,dc,n,x,y,rfl,⟨hd,ht⟩,hx,hy⟩
def zeroTy:TyV:=⟨0,0,0,false,none,0,0,⟨#[]⟩⟩
end Go.Proofs.YtpekidjfbinekaaGreatDoor
