import Derived.Test.YbulkszsBCovers
import Derived.WalkKit
import Derived.ProofKit
import Derived.WalkSpells
import Derived.Below
import Derived.Deep.RegionHeld3
import Derived.Outline
namespace Go.Proofs.Ybulkszs
open Go.RowKit

set_option maxHeartbeats 1000000 in
theorem breq_any (mcc mnc dnn : ByteArray) (sst sd : Int) (hasSD hasS : Bool) (w : World) :
    Calls Yba.prog 12 #[.agg #[.string mcc, .string mnc, .string dnn, .int .u8 sst, .int .u32 sd, .bool hasSD, .bool hasS]] w fun e w' =>
      e = .returned (.tuple #[.agg #[.string mcc, .string mnc], .agg #[.string dnn, .int .u8 sst, .int .u32 sd, .bool hasSD, .bool hasS]]) ∧ Below w.heap.size w w' := by
  go_enter Yba.func12, Yba.ntmps12
  go_wp2
  go_region_held3 (fun w' => w'.cell? ⟨w.heap.size, 0, none⟩ = some (.string mcc) ∧ w'.cell? ⟨w.heap.size, 1, none⟩ = some (.string mnc) ∧ w'.cell? ⟨w.heap.size, 2, none⟩ = some (.string dnn) ∧ w'.cell? ⟨w.heap.size, 3, none⟩ = some (.int .u8 sst) ∧ w'.cell? ⟨w.heap.size, 4, none⟩ = some (.int .u32 sd) ∧ w'.cell? ⟨w.heap.size, 5, none⟩ = some (.bool hasSD) ∧ w'.cell? ⟨w.heap.size, 6, none⟩ = some (.bool hasS)) (go_keep) (fail)
  go_wp2
  exact bodyPost_ret (v := .tuple #[.agg #[.string mcc, .string mnc], .agg #[.string dnn, .int .u8 sst, .int .u32 sd, .bool hasSD, .bool hasS]]) (by simp [results, Yba.results12, go_sem]) rfl ⟨rfl, (bel3 _ _ _ _).drew⟩
end Go.Proofs.Ybulkszs
