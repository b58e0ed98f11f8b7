import Derived.Test.YbulkszsBKeyFor
import Derived.Deep.RegionWith
namespace Go.Proofs.Ybulkszs
open Go.RowKit

theorem belT {w w1 w2 : World} (h : Below w.heap.size w w1) (k : Below w1.heap.size w1 w2) : Below w.heap.size w w2 := h.trans (k.mono h.size)

theorem blk_new (w : World) (O : Obj) : (w.alloc O).heap[w.heap.size]? = some O := by
  show (w.heap.push O)[w.heap.size]? = _
  simp
theorem blk_lt {w : World} {b : Nat} {X : Obj} (h : w.heap[b]? = some X) : b < w.heap.size := (Array.getElem?_eq_some_iff.1 h).1
theorem blk_alloc {w : World} {b : Nat} {X : Obj} (h : w.heap[b]? = some X) (O : Obj) : (w.alloc O).heap[b]? = some X := (Below.heap_alloc w O b (blk_lt h)).trans h
theorem blk_below {W w' : World} {b : Nat} {X : Obj} (hb : Below W.heap.size W w') (h : W.heap[b]? = some X) : w'.heap[b]? = some X := (hb.block b (blk_lt h)).trans h
theorem blk_cell {w : World} {b : Nat} {cs : Array Value} {t : TypeId} {fr : Nat × Nat} (h : w.heap[b]? = some (.cells cs t fr)) (o : Nat) : w.cell? ⟨b, o, none⟩ = cs[o]? := by simp [World.cell?, h]

/-- '==' of two keys. -/
def keyEq (t1 m1 n1 d1 t2 m2 n2 d2 : ByteArray) (p1 q1 r1 p2 q2 r2 : Bool) (s1 e1 s2 e2 : Int) (h1 g1 h2 g2 : Bool) : Bool :=
  decide (t1.toList = t2.toList) && (decide (p1 = p2) && (decide (m1.toList = m2.toList) && (decide (n1.toList = n2.toList) && (decide (q1 = q2) && (decide (d1.toList = d2.toList) && (decide (r1 = r2) &&
    (decide (s1 = s2) && (decide (e1 = e2) && (decide (h1 = h2) && (decide (g1 = g2) && true))))))))))

theorem ite_ok {c : Prop} [Decidable c] {b : Bool} {w : World} {X : Result Value} (h : X = Result.ok (.bool b) w) : (if c then X else Result.ok (.bool false) w) = Result.ok (.bool (decide c && b)) w := by
  subst h
  by_cases hc : c <;> simp [hc]

theorem run_eql41 (t1 m1 n1 d1 t2 m2 n2 d2 : ByteArray) (p1 q1 r1 p2 q2 r2 : Bool) (s1 e1 s2 e2 : Int) (h1 g1 h2 g2 : Bool) (w : World) :
    (binOp .eql 41 (.agg #[.string t1, .bool p1, .string m1, .string n1, .bool q1, .string d1, .bool r1, .int .u8 s1, .int .u32 e1, .bool h1, .bool g1])
      (.agg #[.string t2, .bool p2, .string m2, .string n2, .bool q2, .string d2, .bool r2, .int .u8 s2, .int .u32 e2, .bool h2, .bool g2])).run Yba.prog w =
    .ok (.bool (keyEq t1 m1 n1 d1 t2 m2 n2 d2 p1 q1 r1 p2 q2 r2 s1 e1 s2 e2 h1 g1 h2 g2)) w := by
  go_simp
  unfold keyEq
  repeat refine ite_ok ?_
  rfl

theorem cov_keyFor (anyP anyD anyS : Bool) (kmcc kmnc kdnn mcc mnc dnn : ByteArray) (ksst ksd sst sd : Int) (khasSD khasS hasSD hasS : Bool) :
    cov anyP anyD anyS (orElse anyP kmcc mcc) (orElse anyP kmnc mnc) (orElse anyD kdnn dnn) mcc mnc dnn (orElse anyS ksst sst) (orElse anyS ksd sd) sst sd (orElse anyS khasSD hasSD) (orElse anyS khasS hasS) hasSD hasS = true := by
  cases anyP <;> cases anyD <;> cases anyS <;> simp [cov, orElse]

theorem cov_keyEq (tm : ByteArray) (anyP anyD anyS : Bool) (kmcc kmnc kdnn mcc mnc dnn : ByteArray) (ksst ksd sst sd : Int) (khasSD khasS hasSD hasS : Bool) :
    keyEq tm (orElse anyP kmcc mcc) (orElse anyP kmnc mnc) (orElse anyD kdnn dnn) tm kmcc kmnc kdnn anyP anyD anyS anyP anyD anyS (orElse anyS ksst sst) (orElse anyS ksd sd) ksst ksd (orElse anyS khasSD hasSD) (orElse anyS khasS hasS) khasSD khasS =
    cov anyP anyD anyS kmcc kmnc kdnn mcc mnc dnn ksst ksd sst sd khasSD khasS hasSD hasS := by
  rw [Bool.eq_iff_iff]
  cases anyP <;> cases anyD <;> cases anyS <;> simp [cov, orElse, keyEq] <;> constructor <;> (intro h; simp_all)

theorem run_eql41_keyFor (tm : ByteArray) (anyP anyD anyS : Bool) (kmcc kmnc kdnn mcc mnc dnn : ByteArray) (ksst ksd sst sd : Int) (khasSD khasS hasSD hasS : Bool) (w : World) :
    (binOp .eql 41 (.agg #[.string tm, .bool anyP, .string (orElse anyP kmcc mcc), .string (orElse anyP kmnc mnc), .bool anyD, .string (orElse anyD kdnn dnn), .bool anyS, .int .u8 (orElse anyS ksst sst), .int .u32 (orElse anyS ksd sd), .bool (orElse anyS khasSD hasSD), .bool (orElse anyS khasS hasS)])
      (.agg #[.string tm, .bool anyP, .string kmcc, .string kmnc, .bool anyD, .string kdnn, .bool anyS, .int .u8 ksst, .int .u32 ksd, .bool khasSD, .bool khasS])).run Yba.prog w =
    .ok (.bool (cov anyP anyD anyS kmcc kmnc kdnn mcc mnc dnn ksst ksd sst sd khasSD khasS hasSD hasS)) w := by
  rw [run_eql41, cov_keyEq]

set_option maxHeartbeats 4000000 in
theorem keyForLaw_any (anyP anyD anyS : Bool) (tm kmcc kmnc kdnn mcc mnc dnn : ByteArray) (ksst ksd sst sd : Int) (khasSD khasS hasSD hasS : Bool) (w : World) :
    Calls Yba.prog 6 #[.agg #[.string tm, .bool anyP, .string kmcc, .string kmnc, .bool anyD, .string kdnn, .bool anyS, .int .u8 ksst, .int .u32 ksd, .bool khasSD, .bool khasS],
      .agg #[.string mcc, .string mnc, .string dnn, .int .u8 sst, .int .u32 sd, .bool hasSD, .bool hasS]] w fun e w' =>
      e = .returned (.bool true) ∧ Below w.heap.size w w' := by
  have heq := run_eql41_keyFor tm anyP anyD anyS kmcc kmnc kdnn mcc mnc dnn ksst ksd sst sd khasSD khasS hasSD hasS
  go_enter Yba.func6, Yba.ntmps6
  go_wp2_with fail
  refine (bkey_any tm anyP kmcc kmnc anyD kdnn anyS ksst ksd khasSD khasS _).mono ?_
  rintro e w1 ⟨rfl, hb1⟩
  obtain ⟨hc1, hf1⟩ := bcell hb1
  have hz1 : w.heap.size + 1 < w1.heap.size := by have := hb1.size; simp at this; omega
  go_wp2_with fail
  refine (breq_any mcc mnc dnn sst sd hasSD hasS _).mono ?_
  rintro e w2 ⟨rfl, hb2⟩
  obtain ⟨hc2, hf2⟩ := bcell hb2
  have hx2 : w1.heap.size < w2.heap.size := by have := hb2.size; simp at this; omega
  go_wp2_with fail
  refine (keyFor_any anyP anyD anyS tm kmcc kmnc kdnn mcc mnc dnn ksst ksd sst sd khasSD khasS hasSD hasS _).mono ?_
  rintro e w3 ⟨rfl, hb3⟩
  obtain ⟨hc3, hf3⟩ := bcell hb3
  have hy3 : w2.heap.size + 1 < w3.heap.size := by have := hb3.size; simp at this; omega
  have hx3 : w2.heap.size < w3.heap.size := by omega
  have hw3 : w1.heap.size < w3.heap.size := by omega
  go_wp2_with fail
  refine (covers_any anyP anyD anyS tm (orElse anyP kmcc mcc) (orElse anyP kmnc mnc) (orElse anyD kdnn dnn) mcc mnc dnn (orElse anyS ksst sst) (orElse anyS ksd sd) sst sd (orElse anyS khasSD hasSD) (orElse anyS khasS hasS) hasSD hasS _).mono ?_
  rintro e w4 ⟨rfl, hb4⟩
  obtain ⟨hc4, hf4⟩ := bcell hb4
  have hv4 : w3.heap.size < w4.heap.size := by have := hb4.size; simp at this; omega
  have hy4 : w2.heap.size + 1 < w4.heap.size := by omega
  have hx4 : w2.heap.size < w4.heap.size := by omega
  have hw4 : w1.heap.size < w4.heap.size := by omega
  rw [cov_keyFor]
  have B5 := blk_below hb4 (blk_alloc (blk_below hb3 (blk_alloc (blk_alloc (blk_below hb2 (blk_new w1 _)) _) _)) _)
  have B6 := blk_below hb4 (blk_alloc (blk_below hb3 (blk_alloc (blk_new w2 _) _)) _)
  have B7 := blk_below hb4 (blk_alloc (blk_below hb3 (blk_new (w2.alloc _) _)) _)
  have B8 := blk_below hb4 (blk_new w3 _)
  have N5 := blk_lt B5
  have N6 := blk_lt B6
  have N7 := blk_lt B7
  have N8 := blk_lt B8
  have K5 := blk_cell B5
  have K6 := blk_cell B6
  have K7 := blk_cell B7
  have K8 := blk_cell B8
  have e7 : (w2.alloc (Obj.cells #[Value.string mcc, Value.string mnc] 24)).heap.size = w2.heap.size + 1 := by simp
  rw [e7] at K7 N7
  clear hc1 hf1 hc2 hf2 hc3 hf3 hc4 hf4 B5 B6 B7 B8 e7 hz1 hx2 hy3 hx3 hw3 hv4 hy4 hx4 hw4
  have hbel : Below w.heap.size w w4 := belT (bel2 _ _ _) (belT hb1 (belT (bel1 _ _) (belT hb2 (belT (bel2 _ _ _) (belT hb3 (belT (bel1 _ _) hb4))))))
  clear hb1 hb2 hb3 hb4
  go_wp2_with fail
  go_region_held3 (fun w' => (∀ o, w'.cell? ⟨w1.heap.size, o, none⟩ = (#[Value.string tm, Value.bool anyP, Value.string kmcc, Value.string kmnc, Value.bool anyD, Value.string kdnn, Value.bool anyS, Value.int .u8 ksst, Value.int .u32 ksd, Value.bool khasSD, Value.bool khasS] : Array Value)[o]?) ∧
      (∀ o, w'.cell? ⟨w2.heap.size, o, none⟩ = (#[Value.string mcc, Value.string mnc] : Array Value)[o]?) ∧
      (∀ o, w'.cell? ⟨w2.heap.size + 1, o, none⟩ = (#[Value.string dnn, Value.int .u8 sst, Value.int .u32 sd, Value.bool hasSD, Value.bool hasS] : Array Value)[o]?) ∧
      (∀ o, w'.cell? ⟨w3.heap.size, o, none⟩ = (#[Value.string tm, Value.bool anyP, Value.string (orElse anyP kmcc mcc), Value.string (orElse anyP kmnc mnc), Value.bool anyD, Value.string (orElse anyD kdnn dnn), Value.bool anyS, Value.int .u8 (orElse anyS ksst sst), Value.int .u32 (orElse anyS ksd sd), Value.bool (orElse anyS khasSD hasSD), Value.bool (orElse anyS khasS hasS)] : Array Value)[o]?))
    (first | (simp [go_sem, *]; done) | (exact ⟨fun o => (hb5.cell (p := ⟨_, o, none⟩) N5).trans (K5 o), fun o => (hb5.cell (p := ⟨_, o, none⟩) N6).trans (K6 o), fun o => (hb5.cell (p := ⟨_, o, none⟩) N7).trans (K7 o), fun o => (hb5.cell (p := ⟨_, o, none⟩) N8).trans (K8 o)⟩))
    ((go_at_call 13; refine (covers_any anyP anyD anyS tm kmcc kmnc kdnn mcc mnc dnn ksst ksd sst sd khasSD khasS hasSD hasS _).mono ?_; rintro e w5 ⟨rfl, hb5⟩))
  go_wp2
  go_ret
  exact ⟨rfl, belT (w1 := w4.drew) hbel.drew hb5⟩

namespace lawS0967BKeyFor
open Go.ChangeShapes Go.WideShapes Go.ChangeAt Go.RowKit

set_option maxRecDepth 100000 in
theorem lifted (os : Os) (started : os.Started) (H : Type) (enc : TypeId × Value → H) :
    ReturnsInHanded {} Yba.checked os 6 .any (Rows.lawS0967BKeyForSpec.pre6 enc Yba.prog Yba.f6 Rows.lawS0967BKeyForRow.domain false) (Rows.lawS0967BKeyForSpec.post enc Yba.prog Yba.f6 false true false false) := by
  refine returnsInHanded_of_change (C := Yba.checked) own started (by kernel_rfl) Yba.func6
    (ChangeSpec.witness6 (enc := enc) (C := Yba.checked) false ⟨#[], #[.agg #[.string ByteArray.empty, .bool false, .string ByteArray.empty, .string ByteArray.empty, .bool false, .string ByteArray.empty, .bool false, .int .u8 0, .int .u32 0, .bool false, .bool false], .agg #[.string ByteArray.empty, .string ByteArray.empty, .string ByteArray.empty, .int .u8 0, .int .u32 0, .bool false, .bool false]], []⟩ 8 (by kernel_rfl) (by kernel_rfl) (by kernel_rfl) (by kernel_rfl)) ?_
  intro W base args ds gs before hval0 hW _ _
  have hval : ∀ (j : Nat) t v, Yba.f6.params[j]? = some t → args[j]? = some v → Value.okWide Yba.prog W .any base t v := hval0
  have hW' := hW
  obtain ⟨p, q, hA0, hV, rfl, hfz, hnd⟩ := hW
  have hA : DataW.TrodAll enc Yba.prog W 0 (fun _ => true) true Yba.f6.params.toList args.toList ds p := hA0
  rw [Yba.params6] at hA hval
  obtain ⟨v0, vs0, d0, ds0, p0, q0, hargs, rfl, rfl, h0, r0⟩ := trodAll_cons hA
  obtain ⟨v1, vs1, d1, ds1, p1, q1, rfl, rfl, rfl, h1, r1⟩ := trodAll_cons r0
  obtain ⟨rfl, rfl, rfl⟩ := trodAll_nil r1
  obtain rfl : args = #[v0, v1] := by cases args; simp_all
  obtain ⟨rfl, rfl⟩ := trodVars_none hV
  obtain ⟨tm, anyP, kmcc, kmnc, anyD, kdnn, anyS, ksst, ksd, khasSD, khasS, rfl⟩ := key_open (hval 0 34 v0 rfl rfl) h0
  have lt0 : ∀ x ∈ p0, x.block < W.heap.size := by obtain ⟨m, hm⟩ := h0; exact DataW.trod_lt m _ _ _ hm
  obtain ⟨mcc, mnc, dnn, sst, sd, hasSD, hasS, rfl⟩ := req_open (hval 1 36 v1 rfl rfl) h1
  have lt1 : ∀ x ∈ p1, x.block < W.heap.size := by obtain ⟨m, hm⟩ := h1; exact DataW.trod_lt m _ _ _ hm
  clear hA0 hval0
  refine (keyForLaw_any anyP anyD anyS tm kmcc kmnc kdnn mcc mnc dnn ksst ksd sst sd khasSD khasS hasSD hasS W).mono fun e W' ⟨he, bel⟩ => ?_
  subst he
  exact ⟨_, rfl, _, _, _, [], _, [], hW', trodAll_mk1 (shut_bool Yba.underlying4 _), (trodAll_cons_mk (Below.trod laidOut (by kernel_rfl) (of_decide_eq_true (by kernel_rfl)) h0 bel lt0) (trodAll_cons_mk (Below.trod laidOut (by kernel_rfl) (of_decide_eq_true (by kernel_rfl)) h1 bel lt1) trodAll_mk0)), rfl, bel.frame _, fun h => by cases h⟩

theorem over : Rows.lawS0967BKeyForRow.holds Yba.pinned (OpenSpec.ofChange Rows.lawS0967BKeyForSpec) :=
  OpenClaim.holds_of_wide 6 Yba.f6 rfl rfl rfl rfl rfl rfl rfl ⟨rfl, rfl, rfl, rfl, rfl⟩ rfl rfl rfl rfl rfl (by kernel_rfl) Yba.func6 (by kernel_rfl)
    (of_decide_eq_true (by kernel_rfl)) (by unfold Func.isWrapper; first | (rw [if_pos (by decide +kernel)]; kernel_rfl) | (rw [if_neg (by decide +kernel)]; exact ⟨rfl, rfl⟩))
    (fun os started H enc _ => lifted os started H enc)
end lawS0967BKeyFor

/-- THE STATEMENT. -/
theorem lawS0967BKeyFor_proved : Rows.LawS0967BKeyForSaid := lawS0967BKeyFor.over
end Go.Proofs.Ybulkszs
