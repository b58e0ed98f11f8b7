import Derived.Test.YbulkszsCLawAsk
import Derived.Test.YbulkszsCLawNil
import Derived.Test.YbulkszsCLawNeF
import Derived.Test.YbulkszsCLawNeT
import Derived.Test.YbulkszsCLawZero
namespace Go.Proofs.Ybulkszs
open Go.RowKit

theorem model_any (a : Option Addr) (len cap : Nat) (dropping : Bool) (started : Int) (off_ : Bool) (offAt at_ ask : Int) (es : Nat → Ent) (w : World) (h : Ce w a len es) (ha : 0 ≤ ask ∧ ask ≤ 255) :
    Calls Yba.prog 8 #[.slice a len cap, .bool dropping, .int .i64 started, .bool off_, .int .i64 offAt, .int .i64 at_, .int .u8 ask] w fun e w' => e = .returned (.bool true) ∧ Below w.heap.size w w' := by
  by_cases hl : (1024 : Int) < (len : Int)
  · exact law_many a len cap dropping started off_ offAt at_ ask w hl
  rcases h with rfl | ⟨b, off, rfl, hb, hrow⟩
  · by_cases hask : ask % 4 = 0
    · exact zero_ask0 a cap es dropping started off_ offAt at_ ask w ha.1 ha.2 hask
    · exact zero_some a cap es dropping started off_ offAt at_ ask w ha.1 ha.2 _ rfl hask
  · by_cases hask : ask % 4 = 0
    · exact law_ask0 b off len cap es dropping started off_ offAt at_ ask w hb hrow (by omega) ha.1 ha.2 hask
    · by_cases hE : outL (if off_ = true then offAt else at_) (keptL dropping started es len) = []
      · exact law_nil b off len cap es dropping started off_ offAt at_ ask w hb hrow (by omega) ha.1 ha.2 _ rfl hask hE
      · cases dropping
        · exact law_ne_f b off len cap es started off_ offAt at_ ask w hb hrow (by omega) ha.1 ha.2 _ rfl hask hE
        · exact law_ne_t b off len cap es started off_ offAt at_ ask w hb hrow (by omega) ha.1 ha.2 _ rfl hask hE
theorem u8_bounds {n : Int} (h : (Lit.int .u8 n).wf = true) : 0 ≤ n ∧ n ≤ 255 := by
  have := bounds_u8 h
  omega

namespace lawS0967CModel
open Go.ChangeShapes Go.WideShapes Go.ChangeAt Go.RowKit
open Go.ChangeMaps (open_string shut_string)

set_option maxRecDepth 100000 in
theorem lifted (os : Os) (started : os.Started) (H : Type) (enc : TypeId × Value → H) :
    ReturnsInHanded {} Yba.checked os 8 .any (Rows.lawS0967CModelSpec.pre6 enc Yba.prog Yba.f8 Rows.lawS0967CModelRow.domain false) (Rows.lawS0967CModelSpec.post enc Yba.prog Yba.f8 false true false false) := by
  refine returnsInHanded_of_change (C := Yba.checked) own started (by kernel_rfl) Yba.func8
    (ChangeSpec.witness6 (enc := enc) (C := Yba.checked) false ⟨#[], #[.slice none 0 0, .bool false, .int .i64 0, .bool false, .int .i64 0, .int .i64 0, .int .u8 0], []⟩ 8 (by kernel_rfl) (by kernel_rfl) (by kernel_rfl) (by kernel_rfl)) ?_
  intro W base args ds gs before hval0 hW _ _
  have hval : ∀ (j : Nat) t v, Yba.f8.params[j]? = some t → args[j]? = some v → Value.okWide Yba.prog W .any base t v := hval0
  have hW' := hW
  obtain ⟨p, q, hA0, hV, rfl, hfz, hnd⟩ := hW
  have hA : DataW.TrodAll enc Yba.prog W 0 (fun _ => true) true Yba.f8.params.toList args.toList ds p := hA0
  rw [Yba.params8] at hA hval
  obtain ⟨v0, vs0, d0, ds0, p0, q0, hargs, rfl, rfl, h0, r0⟩ := trodAll_cons hA
  obtain ⟨v1, vs1, d1, ds1, p1, q1, rfl, rfl, rfl, h1, r1⟩ := trodAll_cons r0
  obtain ⟨v2, vs2, d2, ds2, p2, q2, rfl, rfl, rfl, h2, r2⟩ := trodAll_cons r1
  obtain ⟨v3, vs3, d3, ds3, p3, q3, rfl, rfl, rfl, h3, r3⟩ := trodAll_cons r2
  obtain ⟨v4, vs4, d4, ds4, p4, q4, rfl, rfl, rfl, h4, r4⟩ := trodAll_cons r3
  obtain ⟨v5, vs5, d5, ds5, p5, q5, rfl, rfl, rfl, h5, r5⟩ := trodAll_cons r4
  obtain ⟨v6, vs6, d6, ds6, p6, q6, rfl, rfl, rfl, h6, r6⟩ := trodAll_cons r5
  obtain ⟨rfl, rfl, rfl⟩ := trodAll_nil r6
  obtain rfl : args = #[v0, v1, v2, v3, v4, v5, v6] := by cases args; simp_all
  obtain ⟨rfl, rfl⟩ := trodVars_none hV
  obtain ⟨sa0, sl0, sc0, rfl⟩ := okWide_slice Yba.underlying51 (hval 0 51 v0 rfl rfl)
  have lt0 : ∀ x ∈ p0, x.block < W.heap.size := by obtain ⟨m, hm⟩ := h0; exact DataW.trod_lt m _ _ _ hm
  obtain ⟨es0, hs0⟩ := ce_open h0
  obtain ⟨a1, rfl, rfl, rfl⟩ := open_bool Yba.underlying4 (hval 1 4 v1 rfl rfl) h1
  obtain ⟨a2, rfl, rfl, rfl, w2⟩ := open_int Yba.underlying2 (hval 2 2 v2 rfl rfl) h2
  obtain ⟨a3, rfl, rfl, rfl⟩ := open_bool Yba.underlying4 (hval 3 4 v3 rfl rfl) h3
  obtain ⟨a4, rfl, rfl, rfl, w4⟩ := open_int Yba.underlying2 (hval 4 2 v4 rfl rfl) h4
  obtain ⟨a5, rfl, rfl, rfl, w5⟩ := open_int Yba.underlying2 (hval 5 2 v5 rfl rfl) h5
  obtain ⟨a6, rfl, rfl, rfl, w6⟩ := open_int Yba.underlying5 (hval 6 5 v6 rfl rfl) h6
  clear hA0 hval0
  refine (model_any sa0 sl0 sc0 a1 a2 a3 a4 a5 a6 es0 W hs0 (u8_bounds w6)).mono fun e W' ⟨he, bel⟩ => ?_
  subst he
  exact ⟨_, rfl, _, _, _, [], _, [], hW', trodAll_mk1 (shut_bool Yba.underlying4 _), (trodAll_cons_mk (Below.trod laidOut (by kernel_rfl) (of_decide_eq_true (by kernel_rfl)) h0 bel lt0) (trodAll_cons_mk (shut_bool Yba.underlying4 _) (trodAll_cons_mk (shut_int Yba.underlying2 w2) (trodAll_cons_mk (shut_bool Yba.underlying4 _) (trodAll_cons_mk (shut_int Yba.underlying2 w4) (trodAll_cons_mk (shut_int Yba.underlying2 w5) (trodAll_cons_mk (shut_int Yba.underlying5 w6) trodAll_mk0))))))), rfl, bel.frame _, fun h => by cases h⟩

theorem over : Rows.lawS0967CModelRow.holds Yba.pinned (OpenSpec.ofChange Rows.lawS0967CModelSpec) :=
  OpenClaim.holds_of_wide 8 Yba.f8 rfl rfl rfl rfl rfl rfl rfl ⟨rfl, rfl, rfl, rfl, rfl⟩ rfl rfl rfl rfl rfl (by kernel_rfl) Yba.func8 (by kernel_rfl)
    (of_decide_eq_true (by kernel_rfl)) (by unfold Func.isWrapper; first | (rw [if_pos (by decide +kernel)]; kernel_rfl) | (rw [if_neg (by decide +kernel)]; exact ⟨rfl, rfl⟩))
    (fun os started H enc _ => lifted os started H enc)
end lawS0967CModel

/-- THE STATEMENT. -/
theorem lawS0967CModel_proved : Rows.LawS0967CModelSaid := lawS0967CModel.over
end Go.Proofs.Ybulkszs
