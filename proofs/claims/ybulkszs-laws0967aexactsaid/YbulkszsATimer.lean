import Derived.Test.YbulkszsAIndex
namespace Go.Proofs.Ybulkszs
open Go.RowKit

/-- No PLMN known? -/
def noPl (x y : ByteArray) : Bool := plEq x y { data := #[] } { data := #[] }
def twelve : Int := 720000000000
/-- What 'smRetryTimer' answers. -/
def smr (found noP : Bool) (t : Int) : Int := if noP = false ∧ found = true ∧ 0 < t then t else 720000000000

set_option maxHeartbeats 1000000 in
theorem timer_pl (hm hn : ByteArray) (a : Option Addr) (len cap : Nat) (t : Int) (ms ns : Nat → ByteArray) (x y : ByteArray) (w : World) (h : Pl w a len cap ms ns) :
    Calls Yba.prog 10 #[.agg #[.string hm, .string hn, .slice a len cap, .int .i64 t], .agg #[.string x, .string y]] w fun e w' =>
      e = .returned (.int .i64 (smr (plEq x y hm hn || hasB ms ns x y len) (noPl x y) t)) ∧ Below w.heap.size w w' := by
  have hq := run_neq24 x y { data := #[] } { data := #[] }
  have he := run_eql24 x y hm hn
  cases hP : plEq x y { data := #[] } { data := #[] }
  · cases hE : plEq x y hm hn
    · cases hH : hasB ms ns x y len
      all_goals
        by_cases ht : t ≤ 0
        all_goals
          rw [hP] at hq
          rw [hE] at he
          go_enter Yba.func10, Yba.ntmps10
          go_wp2_with fail
          refine (contains_pl a len cap ms ns x y _ (h.later (bel2 _ _ _))).mono ?_
          rintro e w1 ⟨rfl, hb⟩
          obtain ⟨hc, hz⟩ : (∀ b o, b < w.heap.size + 2 → w1.cell? ⟨b, o, none⟩ = ((w.alloc (.cells #[.string hm, .string hn, .slice a len cap, .int .i64 t] 27)).alloc (.cells #[.string x, .string y] 24)).cell? ⟨b, o, none⟩) ∧ w.heap.size + 1 < w1.heap.size := ⟨fun b o hb' => hb.cell (p := ⟨b, o, none⟩) (by simp; omega), by have := hb.size; simp at this; omega⟩
          rw [hH]
          go_wp2
          go_ret
          exact ⟨by simp [smr, noPl, hP] <;> omega, belT (bel2 _ _ _) hb⟩
    · by_cases ht : t ≤ 0
      all_goals
        rw [hP] at hq
        rw [hE] at he
        go_enter Yba.func10, Yba.ntmps10
        go_wp2
        go_ret
        exact ⟨by simp [smr, noPl, hP] <;> omega, bel2 _ _ _⟩
  · rw [hP] at hq
    go_enter Yba.func10, Yba.ntmps10
    go_wp2
    go_ret
    exact ⟨by simp [smr, noPl, hP], bel2 _ _ _⟩
end Go.Proofs.Ybulkszs
