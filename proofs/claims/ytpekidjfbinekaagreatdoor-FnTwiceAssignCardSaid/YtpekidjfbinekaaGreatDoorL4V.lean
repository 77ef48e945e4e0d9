/-   The calls of a law: a unifier of the reference, its Unify, impl.Unify. -/
import Derived.Test.YtpekidjfbinekaaGreatDoorE41
set_option maxRecDepth 100000
set_option maxHeartbeats 60000000
set_option linter.all false
namespace Go.Proofs.YtpekidjfbinekaaGreatDoor
open Go.RowKit Uni
structure RefIn (w:World) (da:Option Addr) (dl dc:Nat) (ar:Nat→Nat) (D:zE) (n:Nat) (B:UB) (x y:TyV) (s t:Tm):Prop where
 E:UEnv da dl dc D ar w B n St.init (.slice none 0 0)
 X:XIn ar dl w B n x s
 Y:XIn ar dl w B n y t
section
variable {da:Option Addr}{dl dc n:Nat}{ar:Nat->Nat}{D:zE}{x y:TyV}{s t:Tm}{w:World}
theorem RefIn.keep {w':World}{B:UB}(h:RefIn w da dl dc ar D n B x y s t)(f:Fr F0 w w'):RefIn w' da dl dc ar D n B x y s t:=⟨h.E.keep f,h.X.keep f.sub,h.Y.keep f.sub⟩
end
end Go.Proofs.YtpekidjfbinekaaGreatDoor
