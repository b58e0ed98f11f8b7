import Derived.Test.YbulkszsBReq
namespace Go.Proofs.Ybulkszs
open Go.RowKit

theorem bcell {W w1 : World} (hb : Below W.heap.size W w1) : (∀ b o, b < W.heap.size → w1.cell? ⟨b, o, none⟩ = W.cell? ⟨b, o, none⟩) ∧ (∀ b o, b < W.heap.size → w1.frozen? ⟨b, o, none⟩ = W.frozen? ⟨b, o, none⟩) :=
  ⟨fun b o h => hb.cell (p := ⟨b, o, none⟩) h, fun b o h => hb.frozen (p := ⟨b, o, none⟩) h⟩

set_option maxHeartbeats 1000000 in
theorem bkey_any (tm : ByteArray) (anyP : Bool) (mcc mnc : ByteArray) (anyD : Bool) (dnn : ByteArray) (anyS : Bool) (sst sd : Int) (hasSD hasS : Bool) (w : World) :
    Calls Yba.prog 11 #[.agg #[.string tm, .bool anyP, .string mcc, .string mnc, .bool anyD, .string dnn, .bool anyS, .int .u8 sst, .int .u32 sd, .bool hasSD, .bool hasS]] w fun e w' =>
      e = .returned (.agg #[.string tm, .bool anyP, .string mcc, .string mnc, .bool anyD, .string dnn, .bool anyS, .int .u8 sst, .int .u32 sd, .bool hasSD, .bool hasS]) ∧ Below w.heap.size w w' := by
  go_enter Yba.func11, Yba.ntmps11
  go_wp2
  exact bodyPost_ret (v := .agg #[.string tm, .bool anyP, .string mcc, .string mnc, .bool anyD, .string dnn, .bool anyS, .int .u8 sst, .int .u32 sd, .bool hasSD, .bool hasS]) (by simp [results, Yba.results11, go_sem]) rfl ⟨rfl, bel2 _ _ _⟩
end Go.Proofs.Ybulkszs
