/-   Four types of a law. -/
import Derived.Test.YtpekidjfbinekaaGreatDoorL4V
set_option maxRecDepth 100000
set_option maxHeartbeats 60000000
set_option linter.all false
namespace Go.Proofs.YtpekidjfbinekaaGreatDoor
open Go.RowKit Uni
abbrev arr24 (x y x2 y2:TyV):Array Value:= #[.int .i64 x.k,.int .i64 x.n,.int .i64 x.c,.bool x.v,.slice x.a x.len x.cap,.string x.nm,.int .i64 y.k,.int .i64 y.n,.int .i64 y.c,.bool y.v,.slice y.a y.len y.cap,.string y.nm,
 .int .i64 x2.k,.int .i64 x2.n,.int .i64 x2.c,.bool x2.v,.slice x2.a x2.len x2.cap,.string x2.nm,.int .i64 y2.k,.int .i64 y2.n,.int .i64 y2.c,.bool y2.v,.slice y2.a y2.len y2.cap,.string y2.nm]
theorem rawL_four {w:World}{b:Nat}{x y x2 y2:TyV}{t:TypeId}(h:w.heap[b]?=some (.cells (arr24 x y x2 y2) t (0,0)))(hx:Raw w x)(hy:Raw w y)(hx2:Raw w x2)(hy2:Raw w y2):RawL w (some ⟨b,0,none⟩) 4 4 [x,y,x2,y2]:=by
 have q:=zA h;refine ⟨.inr ⟨b,0,rfl,fun i p hp=> ?_⟩,rfl,fun i p hp=> ?_,by omega⟩
 ·match i,hp with
  |0,hp=>cases hp;exact ⟨id,q 0,q 1,q 2,q 3,q 4,q 5⟩
  |1,hp=>cases hp;exact ⟨id,q 6,q 7,q 8,q 9,q 10,q 11⟩
  |2,hp=>cases hp;exact ⟨id,q 12,q 13,q 14,q 15,q 16,q 17⟩
  |3,hp=>cases hp;exact ⟨id,q 18,q 19,q 20,q 21,q 22,q 23⟩
 ·match i,hp with
  |0,hp=>cases hp;exact hx
  |1,hp=>cases hp;exact hy
  |2,hp=>cases hp;exact hx2
  |3,hp=>cases hp;exact hy2
theorem valid_four {w w':World}{da:Option Addr}{dl:Nat}{n:Int}{x y x2 y2:TyV}(h:ValidT w da dl n [x,y,x2,y2])(ht:TabOk w)(f:Fr F0 w w'):
 ∃(N:Nat) (ar:Nat->Nat) (D:zE) (s t s2 t2:Tm),n=N/\LIn w' da dl ar D N/\TIn w' dl ar N x s/\TIn w' dl ar N y t/\TIn w' dl ar N x2 s2/\TIn w' dl ar N y2 t2:=by
 obtain ⟨N,hn,h8,h16,ar,D,hD,hs⟩:=h;obtain ⟨s,hs0⟩:=hs 0 x rfl;obtain ⟨t,ht0⟩:=hs 1 y rfl;obtain ⟨s2,hs2⟩:=hs 2 x2 rfl;obtain ⟨t2,ht2⟩:=hs 3 y2 rfl;exact ⟨N,ar,D,s,t,s2,t2,hn,(⟨hD,h8,ht⟩:LIn w da dl ar D N).keep f,hs0.tin.keep f,ht0.tin.keep f,hs2.tin.keep f,ht2.tin.keep f⟩
end Go.Proofs.YtpekidjfbinekaaGreatDoor
