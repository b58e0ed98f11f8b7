import Derived.Test.YbulkszsRows
import Derived.WalkKit
import Derived.ProofKit
import Derived.WalkSpells
import Derived.Below
import Derived.Deep.QuietTactic
import Derived.BigQuiet
import Derived.Outline
namespace Go.Proofs.Ybulkszs
open Go.RowKit

/-- One entry of the hold list, as the law's argument bears it. -/
structure Ent where
  sel : Int
  unt : Int
  deact : Bool
  since : Int

/-- What 'zzs0967ctimer' answers. -/
def tmr (sel : Int) : ByteArray := if sel % 4 = 0 then ⟨#[]⟩ else if sel % 4 = 1 then ⟨#[84, 51, 51, 57, 54]⟩ else if sel % 4 = 2 then ⟨#[84, 51, 53, 56, 52]⟩ else ⟨#[84, 51, 53, 56, 53]⟩

set_option maxHeartbeats 1000000 in
theorem ctimer_any (sel : Int) (w : World) (h0 : 0 ≤ sel) (h1 : sel ≤ 255) :
    Calls Yba.prog 15 #[.int .u8 sel] w fun e w' => e = .returned (.string (tmr sel)) ∧ w' = w := by
  have hc : sel % 4 = 0 ∨ sel % 4 = 1 ∨ sel % 4 = 2 ∨ sel % 4 = 3 := by omega
  rcases hc with hc | hc | hc | hc
  all_goals
    rw [show tmr sel = _ from by unfold tmr; rw [hc]]
    go_enter Yba.func15, Yba.ntmps15
    go_wp2
    go_ret
    exact ⟨rfl, rfl⟩

/-- Is the timer's name empty? -/
def noT (sel : Int) : Bool := decide (sel % 4 = 0)
theorem noT_isEmpty (sel : Int) : (tmr sel).toList.isEmpty = noT sel := by
  unfold tmr noT
  by_cases h0 : sel % 4 = 0
  · simp [h0]
  · by_cases h1 : sel % 4 = 1
    · simp [h1]
    · by_cases h2 : sel % 4 = 2
      · simp [h2]
      · simp [h0, h1, h2]

/-- 'holdsAt'. -/
def hAt (deact : Bool) (at_ unt : Int) : Bool := deact || decide (at_ < unt)
/-- 'kept'. -/
def kp (noTm deact dropping : Bool) (unt started : Int) : Bool := !noTm && (deact || !dropping || decide (started < unt))

set_option maxHeartbeats 1000000 in
theorem holdsAt_any (c0 c1 c2 c3 c4 c5 c6 c7 c8 c9 c10 : Value) (unt at_ : Int) (deact : Bool) (w : World) :
    Calls Yba.prog 19 #[.agg #[c0, c1, c2, c3, c4, c5, c6, c7, c8, c9, c10, .int .i64 unt, .bool deact], .int .i64 at_] w fun e w' => e = .returned (.bool (hAt deact at_ unt)) ∧ w' = w.alloc (.cells #[c0, c1, c2, c3, c4, c5, c6, c7, c8, c9, c10, .int .i64 unt, .bool deact] 56) := by
  cases deact
  all_goals
    go_enter Yba.func19, Yba.ntmps19
    go_wp2
    go_ret
    exact ⟨by simp [hAt], rfl⟩

set_option maxRecDepth 100000 in
set_option maxHeartbeats 2000000 in
theorem kept_any (S so G o : Nat) (tm : ByteArray) (deact dropping : Bool) (unt started : Int) (w : World) (noTm : Bool) (hT : tm.toList.isEmpty = noTm)
    (s1 : w.cell? ⟨S, so + 1, none⟩ = some (.bool dropping)) (s2 : w.cell? ⟨S, so + 2, none⟩ = some (.int .i64 started))
    (g0 : w.cell? ⟨G, o, none⟩ = some (.string tm)) (g11 : w.cell? ⟨G, o + 11, none⟩ = some (.int .i64 unt)) (g12 : w.cell? ⟨G, o + 12, none⟩ = some (.bool deact)) :
    Calls Yba.prog 22 #[.pointer (some ⟨S, so, none⟩), .pointer (some ⟨G, o, none⟩)] w fun e w' => e = .returned (.bool (kp noTm deact dropping unt started)) ∧ ∃ q, w' = w.drewN q := by
  by_cases hu : started < unt
  · have hd : decide (started < unt) = true := by simp [hu]
    cases noTm <;> cases deact <;> cases dropping <;>
    · go_enter Yba.func22, Yba.ntmps22
      go_wp2
      go_quiet (fail)
      go_wp2
      go_ret
      exact ⟨by simp [kp, hu], nq, rfl⟩
  · have hd : decide (started < unt) = false := by simp [hu]
    cases noTm <;> cases deact <;> cases dropping <;>
    · go_enter Yba.func22, Yba.ntmps22
      go_wp2
      go_quiet (fail)
      go_wp2
      go_ret
      exact ⟨by simp [kp, hu], nq, rfl⟩
end Go.Proofs.Ybulkszs
