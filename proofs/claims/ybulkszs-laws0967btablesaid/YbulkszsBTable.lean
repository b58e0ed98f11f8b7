import Derived.Test.YbulkszsBKey
import Derived.Test.YbulkszsShapes
import Derived.Deep.DeepCutAuto
namespace Go.Proofs.Ybulkszs
open Go.RowKit

theorem belT {w w1 w2 : World} (h : Below w.heap.size w w1) (k : Below w1.heap.size w1 w2) : Below w.heap.size w w2 := h.trans (k.mono h.size)
theorem blk_new (w : World) (O : Obj) : (w.alloc O).heap[w.heap.size]? = some O := by
  show (w.heap.push O)[w.heap.size]? = _
  simp
theorem blk_lt {w : World} {b : Nat} {X : Obj} (h : w.heap[b]? = some X) : b < w.heap.size := (Array.getElem?_eq_some_iff.1 h).1
theorem blk_alloc {w : World} {b : Nat} {X : Obj} (h : w.heap[b]? = some X) (O : Obj) : (w.alloc O).heap[b]? = some X := (Below.heap_alloc w O b (blk_lt h)).trans h
theorem blk_below {W w' : World} {b : Nat} {X : Obj} (hb : Below W.heap.size W w') (h : W.heap[b]? = some X) : w'.heap[b]? = some X := (hb.block b (blk_lt h)).trans h
theorem blk_cell {w : World} {b : Nat} {cs : Array Value} {t : TypeId} {fr : Nat × Nat} (h : w.heap[b]? = some (.cells cs t fr)) (o : Nat) : w.cell? ⟨b, o, none⟩ = cs[o]? := by simp [World.cell?, h]

def covP (anyP : Bool) (kmcc kmnc mcc mnc : ByteArray) : Bool := anyP || (decide (kmcc.toList = mcc.toList) && decide (kmnc.toList = mnc.toList))
def covD (anyD : Bool) (kdnn dnn : ByteArray) : Bool := anyD || decide (kdnn.toList = dnn.toList)
def covN (anyS : Bool) (ksst ksd sst sd : Int) (khasSD khasS hasSD hasS : Bool) : Bool := anyS || (decide (khasS = hasS) && (decide (ksst = sst) && decide (ksd = sd) && decide (khasSD = hasSD)))
theorem cov_parts (anyP anyD anyS : Bool) (kmcc kmnc kdnn mcc mnc dnn : ByteArray) (ksst ksd sst sd : Int) (khasSD khasS hasSD hasS : Bool) :
    cov anyP anyD anyS kmcc kmnc kdnn mcc mnc dnn ksst ksd sst sd khasSD khasS hasSD hasS = (covP anyP kmcc kmnc mcc mnc && covD anyD kdnn dnn && covN anyS ksst ksd sst sd khasSD khasS hasSD hasS) := rfl

theorem beq_dec (a b : List UInt8) : (a == b) = decide (a = b) := by rw [Bool.eq_iff_iff]; simp
theorem covP_1 {anyP : Bool} {kmcc kmnc mcc mnc : ByteArray} (h1 : (!anyP) = true) (h2 : kmcc.toList = mcc.toList) : Value.bool (kmnc.toList == mnc.toList) = .bool (covP anyP kmcc kmnc mcc mnc) := by
  cases anyP <;> simp_all [covP, beq_dec]
theorem covP_2 {anyP : Bool} {kmcc kmnc mcc mnc : ByteArray} (h1 : (!anyP) = true) (h2 : ¬ kmcc.toList = mcc.toList) : Value.bool false = .bool (covP anyP kmcc kmnc mcc mnc) := by
  cases anyP <;> simp_all [covP]
theorem covP_3 {anyP : Bool} {kmcc kmnc mcc mnc : ByteArray} (h1 : (!anyP) = false) : Value.bool true = .bool (covP anyP kmcc kmnc mcc mnc) := by
  cases anyP <;> simp_all [covP]
theorem covD_1 {anyD : Bool} {kdnn dnn : ByteArray} (h1 : (!anyD) = true) : Value.bool (kdnn.toList == dnn.toList) = .bool (covD anyD kdnn dnn) := by
  cases anyD <;> simp_all [covD, beq_dec]
theorem covD_2 {anyD : Bool} {kdnn dnn : ByteArray} (h1 : (!anyD) = false) : Value.bool true = .bool (covD anyD kdnn dnn) := by
  cases anyD <;> simp_all [covD]

theorem covN_1 {anyS : Bool} {ksst ksd sst sd : Int} {khasSD khasS hasSD hasS : Bool} (h1 : (!anyS) = true) (h2 : (!khasS == hasS) = true) : Value.bool false = .bool (covN anyS ksst ksd sst sd khasSD khasS hasSD hasS) := by
  cases anyS <;> cases khasS <;> cases hasS <;> simp_all [covN]
theorem covN_2 {anyS : Bool} {ksst ksd sst sd : Int} {khasSD khasS hasSD hasS : Bool} (h1 : (!anyS) = true) (h2 : (!khasS == hasS) = false) (h3 : ksst = sst) (h4 : ksd = sd) : Value.bool (khasSD == hasSD) = .bool (covN anyS ksst ksd sst sd khasSD khasS hasSD hasS) := by
  cases anyS <;> cases khasS <;> cases hasS <;> cases khasSD <;> cases hasSD <;> simp_all [covN]
theorem covN_3 {anyS : Bool} {ksst ksd sst sd : Int} {khasSD khasS hasSD hasS : Bool} (h1 : (!anyS) = true) (h3 : ksst = sst) (h4 : ¬ ksd = sd) : Value.bool false = .bool (covN anyS ksst ksd sst sd khasSD khasS hasSD hasS) := by
  cases anyS <;> simp_all [covN]
theorem covN_4 {anyS : Bool} {ksst ksd sst sd : Int} {khasSD khasS hasSD hasS : Bool} (h1 : (!anyS) = true) (h3 : ¬ ksst = sst) : Value.bool false = .bool (covN anyS ksst ksd sst sd khasSD khasS hasSD hasS) := by
  cases anyS <;> simp_all [covN]
theorem covN_5 {anyS : Bool} {ksst ksd sst sd : Int} {khasSD khasS hasSD hasS : Bool} (h1 : (!anyS) = false) : Value.bool true = .bool (covN anyS ksst ksd sst sd khasSD khasS hasSD hasS) := by
  cases anyS <;> simp_all [covN]

set_option maxHeartbeats 4000000 in
theorem table_any (anyP anyD anyS : Bool) (tm kmcc kmnc kdnn mcc mnc dnn : ByteArray) (ksst ksd sst sd : Int) (khasSD khasS hasSD hasS : Bool) (w : World) :
    Calls Yba.prog 5 #[.agg #[.string tm, .bool anyP, .string kmcc, .string kmnc, .bool anyD, .string kdnn, .bool anyS, .int .u8 ksst, .int .u32 ksd, .bool khasSD, .bool khasS],
      .agg #[.string mcc, .string mnc, .string dnn, .int .u8 sst, .int .u32 sd, .bool hasSD, .bool hasS]] w fun e w' =>
      e = .returned (.bool true) ∧ Below w.heap.size w w' := by
  go_enter Yba.func5, Yba.ntmps5
  go_wp2_with fail
  refine (bkey_any tm _ kmcc kmnc _ kdnn _ ksst ksd khasSD khasS _).mono ?_
  rintro e w1 ⟨rfl, hb1⟩
  have B2 := blk_below hb1 (blk_alloc (blk_new w _) _)
  have B3 := blk_below hb1 (blk_new (w.alloc _) _)
  have e3 : ∀ O, (w.alloc O).heap.size = w.heap.size + 1 := by simp
  rw [e3] at B3
  have N2 := blk_lt B2
  have N3 := blk_lt B3
  have K2 := blk_cell B2
  have K3 := blk_cell B3
  have hbel1 : Below w.heap.size w w1 := belT (bel2 _ _ _) hb1
  clear hb1
  go_wp2_with fail
  refine (breq_any mcc mnc dnn sst sd hasSD hasS _).mono ?_
  rintro e w2 ⟨rfl, hb2⟩
  have B2' := blk_below hb2 (blk_alloc B2 _)
  have B3' := blk_below hb2 (blk_alloc B3 _)
  have B5 := blk_below hb2 (blk_new w1 _)
  have M2 := blk_lt B2'
  have M3 := blk_lt B3'
  have M5 := blk_lt B5
  have L2 := blk_cell B2'
  have L3 := blk_cell B3'
  have L5 := blk_cell B5
  have hbel2 : Below w.heap.size w w2 := belT hbel1 (belT (bel1 _ _) hb2)
  clear hb2 hbel1 K2 K3 N2 N3 B2 B3 B2' B3' B5 e3
  go_upto_if 20 with fail
  go_cut [8] (fun s8 wx => s8 = .bool (covP anyP kmcc kmnc mcc mnc) ∧ wx = (w2.alloc (.cells #[.string mcc, .string mnc] 24)).alloc (.cells #[.string dnn, .int .u8 sst, .int .u32 sd, .bool hasSD, .bool hasS] 44))
  case first =>
    go_wp2_with fail
    all_goals (go_meet; exact ⟨(by first | exact covP_1 ‹_› ‹_› | exact covP_2 ‹_› ‹_› | exact covP_3 ‹_›), rfl⟩)
  case rest =>
  obtain ⟨rfl, rfl⟩ := hcut
  go_upto_if 35 with fail
  go_cut [9] (fun s9 wx => s9 = .bool (covD anyD kdnn dnn) ∧ wx = (w2.alloc (.cells #[.string mcc, .string mnc] 24)).alloc (.cells #[.string dnn, .int .u8 sst, .int .u32 sd, .bool hasSD, .bool hasS] 44))
  case first =>
    go_wp2_with fail
    all_goals (go_meet; exact ⟨(by first | exact covD_1 ‹_› | exact covD_2 ‹_›), rfl⟩)
  case rest =>
  obtain ⟨rfl, rfl⟩ := hcut
  go_upto_if 43 with fail
  go_cut [0, 10] (fun _ s10 wx => s10 = .bool (covN anyS ksst ksd sst sd khasSD khasS hasSD hasS) ∧ wx = (w2.alloc (.cells #[.string mcc, .string mnc] 24)).alloc (.cells #[.string dnn, .int .u8 sst, .int .u32 sd, .bool hasSD, .bool hasS] 44))
  case first =>
    go_wp2_with fail
    all_goals (go_meet; exact ⟨(by first | exact covN_1 ‹_› ‹_› | exact covN_2 ‹_› ‹_› ‹_› ‹_› | exact covN_3 ‹_› ‹_› ‹_› | exact covN_4 ‹_› ‹_› | exact covN_5 ‹_›), rfl⟩)
  case rest =>
  obtain ⟨rfl, rfl⟩ := hcut
  go_wp2_with fail
  refine (covers_any anyP anyD anyS tm kmcc kmnc kdnn mcc mnc dnn ksst ksd sst sd khasSD khasS hasSD hasS _).mono ?_
  rintro e w3 ⟨rfl, hb3⟩
  rw [cov_parts]
  go_wp2
  all_goals
    go_ret
    refine ⟨?_, belT hbel2 (belT (bel2 _ _ _) hb3)⟩
    clear hbel2 hb3 L2 L3 L5 M2 M3 M5
    simp [*]

namespace lawS0967BTable
open Go.ChangeShapes Go.WideShapes Go.ChangeAt Go.RowKit

set_option maxRecDepth 100000 in
theorem lifted (os : Os) (started : os.Started) (H : Type) (enc : TypeId × Value → H) :
    ReturnsInHanded {} Yba.checked os 5 .any (Rows.lawS0967BTableSpec.pre6 enc Yba.prog Yba.f5 Rows.lawS0967BTableRow.domain false) (Rows.lawS0967BTableSpec.post enc Yba.prog Yba.f5 false true false false) := by
  refine returnsInHanded_of_change (C := Yba.checked) own started (by kernel_rfl) Yba.func5
    (ChangeSpec.witness6 (enc := enc) (C := Yba.checked) false ⟨#[], #[.agg #[.string ByteArray.empty, .bool false, .string ByteArray.empty, .string ByteArray.empty, .bool false, .string ByteArray.empty, .bool false, .int .u8 0, .int .u32 0, .bool false, .bool false], .agg #[.string ByteArray.empty, .string ByteArray.empty, .string ByteArray.empty, .int .u8 0, .int .u32 0, .bool false, .bool false]], []⟩ 8 (by kernel_rfl) (by kernel_rfl) (by kernel_rfl) (by kernel_rfl)) ?_
  intro W base args ds gs before hval0 hW _ _
  have hval : ∀ (j : Nat) t v, Yba.f5.params[j]? = some t → args[j]? = some v → Value.okWide Yba.prog W .any base t v := hval0
  have hW' := hW
  obtain ⟨p, q, hA0, hV, rfl, hfz, hnd⟩ := hW
  have hA : DataW.TrodAll enc Yba.prog W 0 (fun _ => true) true Yba.f5.params.toList args.toList ds p := hA0
  rw [Yba.params5] at hA hval
  obtain ⟨v0, vs0, d0, ds0, p0, q0, hargs, rfl, rfl, h0, r0⟩ := trodAll_cons hA
  obtain ⟨v1, vs1, d1, ds1, p1, q1, rfl, rfl, rfl, h1, r1⟩ := trodAll_cons r0
  obtain ⟨rfl, rfl, rfl⟩ := trodAll_nil r1
  obtain rfl : args = #[v0, v1] := by cases args; simp_all
  obtain ⟨rfl, rfl⟩ := trodVars_none hV
  obtain ⟨tm, anyP, kmcc, kmnc, anyD, kdnn, anyS, ksst, ksd, khasSD, khasS, rfl⟩ := key_open (hval 0 34 v0 rfl rfl) h0
  have lt0 : ∀ x ∈ p0, x.block < W.heap.size := by obtain ⟨m, hm⟩ := h0; exact DataW.trod_lt m _ _ _ hm
  obtain ⟨mcc, mnc, dnn, sst, sd, hasSD, hasS, rfl⟩ := req_open (hval 1 36 v1 rfl rfl) h1
  have lt1 : ∀ x ∈ p1, x.block < W.heap.size := by obtain ⟨m, hm⟩ := h1; exact DataW.trod_lt m _ _ _ hm
  clear hA0 hval0
  refine (table_any anyP anyD anyS tm kmcc kmnc kdnn mcc mnc dnn ksst ksd sst sd khasSD khasS hasSD hasS W).mono fun e W' ⟨he, bel⟩ => ?_
  subst he
  exact ⟨_, rfl, _, _, _, [], _, [], hW', trodAll_mk1 (shut_bool Yba.underlying4 _), (trodAll_cons_mk (Below.trod laidOut (by kernel_rfl) (of_decide_eq_true (by kernel_rfl)) h0 bel lt0) (trodAll_cons_mk (Below.trod laidOut (by kernel_rfl) (of_decide_eq_true (by kernel_rfl)) h1 bel lt1) trodAll_mk0)), rfl, bel.frame _, fun h => by cases h⟩

theorem over : Rows.lawS0967BTableRow.holds Yba.pinned (OpenSpec.ofChange Rows.lawS0967BTableSpec) :=
  OpenClaim.holds_of_wide 5 Yba.f5 rfl rfl rfl rfl rfl rfl rfl ⟨rfl, rfl, rfl, rfl, rfl⟩ rfl rfl rfl rfl rfl (by kernel_rfl) Yba.func5 (by kernel_rfl)
    (of_decide_eq_true (by kernel_rfl)) (by unfold Func.isWrapper; first | (rw [if_pos (by decide +kernel)]; kernel_rfl) | (rw [if_neg (by decide +kernel)]; exact ⟨rfl, rfl⟩))
    (fun os started H enc _ => lifted os started H enc)
end lawS0967BTable

/-- THE STATEMENT. -/
theorem lawS0967BTable_proved : Rows.LawS0967BTableSaid := lawS0967BTable.over
end Go.Proofs.Ybulkszs
