/-   The laws' place. -/
import Derived.Test.YtpekidjfbinekaaGreatDoorL4R
set_option maxRecDepth 100000
set_option maxHeartbeats 60000000
set_option linter.all false
namespace Go.Proofs.YtpekidjfbinekaaGreatDoor
open Go.RowKit Uni
theorem place_any (n:Int)(k:Nat)(w:World)(h1:1<=k)(h8:k<=8):Calls Tryz.prog 21 #[.int .i64 n,.int .i64 k] w fun e w'=> ∃r:Nat,r < k/\e= .returned (.int .i64 r)/\Fr F0 w w':=by
 have hk0:(k:Int)≠0:=by omega
 have a1:Int.tmod n k < k:=Int.tmod_lt_of_pos _ (by omega);have a2: -(k:Int) < Int.tmod n k:=by have:=Int.lt_tmod_of_pos n (show (0:Int) < k by omega);omega
 have b0:0<=Int.tmod (Int.tmod n k + k) k:=Int.tmod_nonneg _ (by omega);have b1:Int.tmod (Int.tmod n k + k) k < k:=Int.tmod_lt_of_pos _ (by omega);have hk:(k:Int)<=8:=by omega
 obtain ⟨r,hr⟩: ∃r:Nat,Int.tmod (Int.tmod n k + k) k=r:=⟨_,(Int.toNat_of_nonneg b0).symm⟩;have hrk:r < k:=by omega
 go_enter Tryz.func21,Tryz.ntmps21;go_wp2;go_ret;exact ⟨r,hrk,by rw [<-hr];go_num,Fr.refl _ _⟩
end Go.Proofs.YtpekidjfbinekaaGreatDoor
