import Derived.Test.YbulkszsBKey
import Derived.Test.YbulkszsShapes
namespace Go.Proofs.Ybulkszs
open Go.RowKit

/-- One part of the key that 'keyFor' makes. -/
def orElse {α : Type} (any : Bool) (k r : α) : α := if any then k else r

theorem bel4 (w : World) (o1 o2 o3 o4 : Obj) : Below w.heap.size w ((((w.alloc o1).alloc o2).alloc o3).alloc o4) := (bel3 w o1 o2 o3).alloc (by simp; omega) o4

set_option maxHeartbeats 4000000 in
theorem keyFor_any (anyP anyD anyS : Bool) (tm kmcc kmnc kdnn mcc mnc dnn : ByteArray) (ksst ksd sst sd : Int) (khasSD khasS hasSD hasS : Bool) (w : World) :
    Calls Yba.prog 14 #[.agg #[.string tm, .bool anyP, .string kmcc, .string kmnc, .bool anyD, .string kdnn, .bool anyS, .int .u8 ksst, .int .u32 ksd, .bool khasSD, .bool khasS], .agg #[.string mcc, .string mnc], .agg #[.string dnn, .int .u8 sst, .int .u32 sd, .bool hasSD, .bool hasS]] w fun e w' =>
      e = .returned (.agg #[.string tm, .bool anyP, .string (orElse anyP kmcc mcc), .string (orElse anyP kmnc mnc), .bool anyD, .string (orElse anyD kdnn dnn), .bool anyS, .int .u8 (orElse anyS ksst sst), .int .u32 (orElse anyS ksd sd), .bool (orElse anyS khasSD hasSD), .bool (orElse anyS khasS hasS)]) ∧ Below w.heap.size w w' := by
  cases anyS
  · cases anyP <;> cases anyD <;>
    · go_enter Yba.func14, Yba.ntmps14
      go_wp2
      go_region_held3 (fun w' => w'.cell? ⟨w.heap.size + 1 + 1, 1, none⟩ = some (.int .u8 sst) ∧ w'.cell? ⟨w.heap.size + 1 + 1, 2, none⟩ = some (.int .u32 sd) ∧ w'.cell? ⟨w.heap.size + 1 + 1, 3, none⟩ = some (.bool hasSD) ∧ w'.cell? ⟨w.heap.size + 1 + 1, 4, none⟩ = some (.bool hasS)) (simp [go_sem]) (fail)
      go_wp2
      refine bodyPost_ret (by simp [results, Yba.results14, go_sem]; rfl) rfl ⟨?_, (bel4 _ _ _ _ _).drew⟩
      simp [orElse]
  · cases anyP <;> cases anyD <;>
    · go_enter Yba.func14, Yba.ntmps14
      go_wp2
      refine bodyPost_ret (by simp [results, Yba.results14, go_sem]; rfl) rfl ⟨?_, bel4 _ _ _ _ _⟩
      simp [orElse]
end Go.Proofs.Ybulkszs
