import Derived.Test.YbulkszsBReq
import Derived.Test.YbulkszsShapes
namespace Go.Proofs.Ybulkszs
open Go.RowKit

theorem belT {w w1 w2 : World} (h : Below w.heap.size w w1) (k : Below w1.heap.size w1 w2) : Below w.heap.size w w2 := h.trans (k.mono h.size)

theorem cov_self (anyP anyD anyS : Bool) (mcc mnc dnn : ByteArray) (sst sd : Int) (hasSD hasS : Bool) : cov anyP anyD anyS mcc mnc dnn mcc mnc dnn sst sd sst sd hasSD hasS hasSD hasS = true := by
  simp [cov]

set_option maxHeartbeats 1000000 in
theorem self_any (mcc mnc dnn : ByteArray) (sst sd : Int) (hasSD hasS anyP anyD anyS : Bool) (w : World) :
    Calls Yba.prog 7 #[.agg #[.string mcc, .string mnc, .string dnn, .int .u8 sst, .int .u32 sd, .bool hasSD, .bool hasS], .bool anyP, .bool anyD, .bool anyS] w fun e w' =>
      e = .returned (.bool true) ∧ Below w.heap.size w w' := by
  go_enter Yba.func7, Yba.ntmps7
  go_wp2_with fail
  refine (breq_any mcc mnc dnn sst sd hasSD hasS _).mono ?_
  rintro e w1 ⟨rfl, hb⟩
  go_wp2_with fail
  refine (covers_any anyP anyD anyS _ mcc mnc dnn mcc mnc dnn sst sd sst sd hasSD hasS hasSD hasS _).mono ?_
  rintro e w2 ⟨rfl, hb2⟩
  rw [cov_self]
  go_wp2
  go_ret
  exact ⟨rfl, belT (bel1 _ _) (belT hb (belT (bel3 _ _ _ _) hb2))⟩

namespace lawS0967BSelf
open Go.ChangeShapes Go.WideShapes Go.ChangeAt Go.RowKit
open Go.ChangeMaps (open_string shut_string)

set_option maxRecDepth 100000 in
theorem lifted (os : Os) (started : os.Started) (H : Type) (enc : TypeId × Value → H) :
    ReturnsInHanded {} Yba.checked os 7 .any (Rows.lawS0967BSelfSpec.pre6 enc Yba.prog Yba.f7 Rows.lawS0967BSelfRow.domain false) (Rows.lawS0967BSelfSpec.post enc Yba.prog Yba.f7 false true false false) := by
  refine returnsInHanded_of_change (C := Yba.checked) own started (by kernel_rfl) Yba.func7
    (ChangeSpec.witness6 (enc := enc) (C := Yba.checked) false ⟨#[], #[.agg #[.string ByteArray.empty, .string ByteArray.empty, .string ByteArray.empty, .int .u8 0, .int .u32 0, .bool false, .bool false], .bool false, .bool false, .bool false], []⟩ 8 (by kernel_rfl) (by kernel_rfl) (by kernel_rfl) (by kernel_rfl)) ?_
  intro W base args ds gs before hval0 hW hcnd _
  have hval : ∀ (j : Nat) t v, Yba.f7.params[j]? = some t → args[j]? = some v → Value.okWide Yba.prog W .any base t v := hval0
  have hW' := hW
  obtain ⟨p, q, hA0, hV, rfl, hfz, hnd⟩ := hW
  have hA : DataW.TrodAll enc Yba.prog W 0 (fun _ => true) true Yba.f7.params.toList args.toList ds p := hA0
  rw [Yba.params7] at hA hval
  obtain ⟨v0, vs0, d0, ds0, p0, q0, hargs, rfl, rfl, h0, r0⟩ := trodAll_cons hA
  obtain ⟨v1, vs1, d1, ds1, p1, q1, rfl, rfl, rfl, h1, r1⟩ := trodAll_cons r0
  obtain ⟨v2, vs2, d2, ds2, p2, q2, rfl, rfl, rfl, h2, r2⟩ := trodAll_cons r1
  obtain ⟨v3, vs3, d3, ds3, p3, q3, rfl, rfl, rfl, h3, r3⟩ := trodAll_cons r2
  obtain ⟨rfl, rfl, rfl⟩ := trodAll_nil r3
  obtain rfl : args = #[v0, v1, v2, v3] := by cases args; simp_all
  obtain ⟨rfl, rfl⟩ := trodVars_none hV
  obtain ⟨mcc, mnc, dnn, sst, sd, hasSD, hasS, rfl⟩ := req_open (hval 0 36 v0 rfl rfl) h0
  have lt0 : ∀ x ∈ p0, x.block < W.heap.size := by obtain ⟨m, hm⟩ := h0; exact DataW.trod_lt m _ _ _ hm
  obtain ⟨a1, rfl, rfl, rfl⟩ := open_bool Yba.underlying4 (hval 1 4 v1 rfl rfl) h1
  obtain ⟨a2, rfl, rfl, rfl⟩ := open_bool Yba.underlying4 (hval 2 4 v2 rfl rfl) h2
  obtain ⟨a3, rfl, rfl, rfl⟩ := open_bool Yba.underlying4 (hval 3 4 v3 rfl rfl) h3
  clear hA0 hval0
  refine (self_any mcc mnc dnn sst sd hasSD hasS a1 a2 a3 W).mono fun e W' ⟨he, bel⟩ => ?_
  subst he
  exact ⟨_, rfl, _, _, _, [], _, [], hW', trodAll_mk1 (shut_bool Yba.underlying4 _), (trodAll_cons_mk (Below.trod laidOut (by kernel_rfl) (of_decide_eq_true (by kernel_rfl)) h0 bel lt0) (trodAll_cons_mk (shut_bool Yba.underlying4 _) (trodAll_cons_mk (shut_bool Yba.underlying4 _) (trodAll_cons_mk (shut_bool Yba.underlying4 _) trodAll_mk0)))), rfl, bel.frame _, fun h => by cases h⟩

theorem over : Rows.lawS0967BSelfRow.holds Yba.pinned (OpenSpec.ofChange Rows.lawS0967BSelfSpec) :=
  OpenClaim.holds_of_wide 7 Yba.f7 rfl rfl rfl rfl rfl rfl rfl ⟨rfl, rfl, rfl, rfl, rfl⟩ rfl rfl rfl rfl rfl (by kernel_rfl) Yba.func7 (by kernel_rfl)
    (of_decide_eq_true (by kernel_rfl)) (by unfold Func.isWrapper; first | (rw [if_pos (by decide +kernel)]; kernel_rfl) | (rw [if_neg (by decide +kernel)]; exact ⟨rfl, rfl⟩))
    (fun os started H enc _ => lifted os started H enc)
end lawS0967BSelf

/-- THE STATEMENT. -/
theorem lawS0967BSelf_proved : Rows.LawS0967BSelfSaid := lawS0967BSelf.over
end Go.Proofs.Ybulkszs
