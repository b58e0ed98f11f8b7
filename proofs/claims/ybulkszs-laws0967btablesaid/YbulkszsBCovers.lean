import Derived.Test.YbulkszsRows
import Derived.WalkKit
import Derived.ProofKit
import Derived.WalkSpells
import Derived.Below
import Derived.Deep.RegionHeld3
import Derived.Outline
namespace Go.Proofs.Ybulkszs
open Go.RowKit

theorem bel1 (w : World) (o1 : Obj) : Below w.heap.size w (w.alloc o1) := (Below.refl _ _).alloc (Nat.le_refl _) o1
theorem bel2 (w : World) (o1 o2 : Obj) : Below w.heap.size w ((w.alloc o1).alloc o2) := (bel1 w o1).alloc (by simp) o2
theorem bel3 (w : World) (o1 o2 o3 : Obj) : Below w.heap.size w (((w.alloc o1).alloc o2).alloc o3) := (bel2 w o1 o2).alloc (by simp; omega) o3

/-- What 'covers' answers. -/
def cov (anyP anyD anyS : Bool) (kmcc kmnc kdnn mcc mnc dnn : ByteArray) (ksst ksd sst sd : Int) (khasSD khasS hasSD hasS : Bool) : Bool :=
  (anyP || (decide (kmcc.toList = mcc.toList) && decide (kmnc.toList = mnc.toList))) && (anyD || decide (kdnn.toList = dnn.toList)) &&
    (anyS || (decide (khasS = hasS) && (decide (ksst = sst) && decide (ksd = sd) && decide (khasSD = hasSD))))

set_option maxHeartbeats 1000000 in
theorem covers_any (anyP anyD anyS : Bool) (tm kmcc kmnc kdnn mcc mnc dnn : ByteArray) (ksst ksd sst sd : Int) (khasSD khasS hasSD hasS : Bool) (w : World) :
    Calls Yba.prog 13 #[.agg #[.string tm, .bool anyP, .string kmcc, .string kmnc, .bool anyD, .string kdnn, .bool anyS, .int .u8 ksst, .int .u32 ksd, .bool khasSD, .bool khasS], .agg #[.string mcc, .string mnc], .agg #[.string dnn, .int .u8 sst, .int .u32 sd, .bool hasSD, .bool hasS]] w fun e w' =>
      e = .returned (.bool (cov anyP anyD anyS kmcc kmnc kdnn mcc mnc dnn ksst ksd sst sd khasSD khasS hasSD hasS)) ∧ Below w.heap.size w w' := by
  cases anyP <;> cases anyD <;> cases anyS <;>
  · go_enter Yba.func13, Yba.ntmps13
    go_wp2
    all_goals (go_ret; exact ⟨by simp [cov, *], bel3 _ _ _ _⟩)
end Go.Proofs.Ybulkszs
