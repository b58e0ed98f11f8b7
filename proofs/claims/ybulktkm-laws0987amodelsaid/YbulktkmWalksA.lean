import Derived.Test.YbulktkmRows
import Derived.WalkKit
import Derived.ProofKit
import Derived.OpenShut
import Derived.ShutString
import Derived.ChangeOld
import Derived.WalkSpells
import Derived.Below
import Derived.Outline
namespace Go.Proofs.Ybulktkm
open Go.RowKit

/-- The text kept. -/
def keptF (n prec : Int) : Int := if 0 ≤ prec ∧ wrap64 (4 * prec) < n then wrap64 (4 * prec) else n
/-- The bytes printed in hexadecimal. -/
def hexF (n prec : Int) : Int := if 0 ≤ prec ∧ prec < n then prec else n
def quoF (k : Int) : Int := wrap64 (wrap64 (4 * k) + 2)
def hxoF (k : Int) : Int := wrap64 (wrap64 (5 * k) + 2)
theorem kept_1 {n prec : Int} (h1 : 0 ≤ prec) (h2 : wrap64 (4 * prec) < n) : keptF n prec = wrap64 (4 * prec) := if_pos ⟨h1, h2⟩
theorem kept_2 {n prec : Int} (h2 : n ≤ wrap64 (4 * prec)) : keptF n prec = n := if_neg (by omega)
theorem kept_3 {n prec : Int} (h1 : prec < 0) : keptF n prec = n := if_neg (by omega)
theorem hex_1 {n prec : Int} (h1 : 0 ≤ prec) (h2 : prec < n) : hexF n prec = prec := if_pos ⟨h1, h2⟩
theorem hex_2 {n prec : Int} (h2 : n ≤ prec) : hexF n prec = n := if_neg (by omega)
theorem hex_3 {n prec : Int} (h1 : prec < 0) : hexF n prec = n := if_neg (by omega)

theorem bel1 (w : World) (o1 : Obj) : Below w.heap.size w (w.alloc o1) := (Below.refl _ _).alloc (Nat.le_refl _) o1

set_option maxHeartbeats 1000000 in
theorem model_s (n : Int) (sharp : Bool) (prec : Int) (w : World) :
    Calls Yba.prog 7 #[.int .i64 n, .int .i32 115, .bool sharp, .int .i64 prec] w fun e w' => e = .returned (.int .i64 (keptF n prec)) ∧ Below w.heap.size w w' := by
  go_enter Yba.func7, Yba.ntmps7
  go_wp2
  all_goals
    go_ret
    refine ⟨?_, Below.refl _ _⟩
    first | rw [kept_1 (n := n) (prec := prec) ‹_› ‹_›] | rw [kept_2 (n := n) (prec := prec) ‹_›] | rw [kept_3 (n := n) (prec := prec) ‹_›]
    rfl

set_option maxHeartbeats 1000000 in
theorem model_q (n : Int) (sharp : Bool) (prec : Int) (w : World) :
    Calls Yba.prog 7 #[.int .i64 n, .int .i32 113, .bool sharp, .int .i64 prec] w fun e w' => e = .returned (.int .i64 (quoF (keptF n prec))) ∧ Below w.heap.size w w' := by
  go_enter Yba.func7, Yba.ntmps7
  go_wp2
  all_goals
    go_ret
    refine ⟨?_, Below.refl _ _⟩
    first | rw [kept_1 (n := n) (prec := prec) ‹_› ‹_›] | rw [kept_2 (n := n) (prec := prec) ‹_›] | rw [kept_3 (n := n) (prec := prec) ‹_›]
    rfl

set_option maxHeartbeats 1000000 in
theorem model_x (n : Int) (sharp : Bool) (prec : Int) (w : World) :
    Calls Yba.prog 7 #[.int .i64 n, .int .i32 120, .bool sharp, .int .i64 prec] w fun e w' => e = .returned (.int .i64 (hxoF (hexF n prec))) ∧ Below w.heap.size w w' := by
  go_enter Yba.func7, Yba.ntmps7
  go_wp2
  all_goals
    go_ret
    refine ⟨?_, Below.refl _ _⟩
    first | rw [hex_1 (n := n) (prec := prec) ‹_› ‹_›] | rw [hex_2 (n := n) (prec := prec) ‹_›] | rw [hex_3 (n := n) (prec := prec) ‹_›]
    rfl

set_option maxHeartbeats 1000000 in
theorem model_X (n : Int) (sharp : Bool) (prec : Int) (w : World) :
    Calls Yba.prog 7 #[.int .i64 n, .int .i32 88, .bool sharp, .int .i64 prec] w fun e w' => e = .returned (.int .i64 (hxoF (hexF n prec))) ∧ Below w.heap.size w w' := by
  go_enter Yba.func7, Yba.ntmps7
  go_wp2
  all_goals
    go_ret
    refine ⟨?_, Below.refl _ _⟩
    first | rw [hex_1 (n := n) (prec := prec) ‹_› ‹_›] | rw [hex_2 (n := n) (prec := prec) ‹_›] | rw [hex_3 (n := n) (prec := prec) ‹_›]
    rfl

set_option maxHeartbeats 1000000 in
theorem model_t (n : Int) (r : Int) (prec : Int) (w : World) (h1 : (r == 115) = false) (h2 : (r == 113) = false) (h3 : (r == 120) = false) (h4 : (r == 88) = false) :
    Calls Yba.prog 7 #[.int .i64 n, .int .i32 r, .bool true, .int .i64 prec] w fun e w' => e = .returned (.int .i64 (quoF (keptF n prec))) ∧ Below w.heap.size w w' := by
  go_enter Yba.func7, Yba.ntmps7
  go_wp2
  all_goals
    go_ret
    refine ⟨?_, Below.refl _ _⟩
    first | rw [kept_1 (n := n) (prec := prec) ‹_› ‹_›] | rw [kept_2 (n := n) (prec := prec) ‹_›] | rw [kept_3 (n := n) (prec := prec) ‹_›]
    rfl

set_option maxHeartbeats 1000000 in
theorem model_f (n : Int) (r : Int) (prec : Int) (w : World) (h1 : (r == 115) = false) (h2 : (r == 113) = false) (h3 : (r == 120) = false) (h4 : (r == 88) = false) :
    Calls Yba.prog 7 #[.int .i64 n, .int .i32 r, .bool false, .int .i64 prec] w fun e w' => e = .returned (.int .i64 (keptF n prec)) ∧ Below w.heap.size w w' := by
  go_enter Yba.func7, Yba.ntmps7
  go_wp2
  all_goals
    go_ret
    refine ⟨?_, Below.refl _ _⟩
    first | rw [kept_1 (n := n) (prec := prec) ‹_› ‹_›] | rw [kept_2 (n := n) (prec := prec) ‹_›] | rw [kept_3 (n := n) (prec := prec) ‹_›]
    rfl

set_option maxHeartbeats 1000000 in
theorem text_s (n : Int) (sharp : Bool) (width : Int) (prec : Int) (w : World) :
    Calls Yba.prog 6 #[.int .i64 n, .agg #[.int .i32 115, .bool sharp, .int .i64 width, .int .i64 prec]] w fun e w' => e = .returned (.int .i64 (keptF n prec)) ∧ Below w.heap.size w w' := by
  go_enter Yba.func6, Yba.ntmps6
  go_wp2
  all_goals
    go_ret
    refine ⟨?_, bel1 _ _⟩
    first | rw [kept_1 (n := n) (prec := prec) ‹_› ‹_›] | rw [kept_2 (n := n) (prec := prec) ‹_›] | rw [kept_3 (n := n) (prec := prec) ‹_›]
    rfl

set_option maxHeartbeats 1000000 in
theorem text_q (n : Int) (sharp : Bool) (width : Int) (prec : Int) (w : World) :
    Calls Yba.prog 6 #[.int .i64 n, .agg #[.int .i32 113, .bool sharp, .int .i64 width, .int .i64 prec]] w fun e w' => e = .returned (.int .i64 (quoF (keptF n prec))) ∧ Below w.heap.size w w' := by
  go_enter Yba.func6, Yba.ntmps6
  go_wp2
  all_goals
    go_ret
    refine ⟨?_, bel1 _ _⟩
    first | rw [kept_1 (n := n) (prec := prec) ‹_› ‹_›] | rw [kept_2 (n := n) (prec := prec) ‹_›] | rw [kept_3 (n := n) (prec := prec) ‹_›]
    rfl

set_option maxHeartbeats 1000000 in
theorem text_x (n : Int) (sharp : Bool) (width : Int) (prec : Int) (w : World) :
    Calls Yba.prog 6 #[.int .i64 n, .agg #[.int .i32 120, .bool sharp, .int .i64 width, .int .i64 prec]] w fun e w' => e = .returned (.int .i64 (hxoF (hexF n prec))) ∧ Below w.heap.size w w' := by
  go_enter Yba.func6, Yba.ntmps6
  go_wp2
  all_goals
    go_ret
    refine ⟨?_, bel1 _ _⟩
    first | rw [hex_1 (n := n) (prec := prec) ‹_› ‹_›] | rw [hex_2 (n := n) (prec := prec) ‹_›] | rw [hex_3 (n := n) (prec := prec) ‹_›]
    rfl

set_option maxHeartbeats 1000000 in
theorem text_X (n : Int) (sharp : Bool) (width : Int) (prec : Int) (w : World) :
    Calls Yba.prog 6 #[.int .i64 n, .agg #[.int .i32 88, .bool sharp, .int .i64 width, .int .i64 prec]] w fun e w' => e = .returned (.int .i64 (hxoF (hexF n prec))) ∧ Below w.heap.size w w' := by
  go_enter Yba.func6, Yba.ntmps6
  go_wp2
  all_goals
    go_ret
    refine ⟨?_, bel1 _ _⟩
    first | rw [hex_1 (n := n) (prec := prec) ‹_› ‹_›] | rw [hex_2 (n := n) (prec := prec) ‹_›] | rw [hex_3 (n := n) (prec := prec) ‹_›]
    rfl

set_option maxHeartbeats 1000000 in
theorem text_vt (n : Int) (width : Int) (prec : Int) (w : World) :
    Calls Yba.prog 6 #[.int .i64 n, .agg #[.int .i32 118, .bool true, .int .i64 width, .int .i64 prec]] w fun e w' => e = .returned (.int .i64 (quoF (keptF n prec))) ∧ Below w.heap.size w w' := by
  go_enter Yba.func6, Yba.ntmps6
  go_wp2
  all_goals
    go_ret
    refine ⟨?_, bel1 _ _⟩
    first | rw [kept_1 (n := n) (prec := prec) ‹_› ‹_›] | rw [kept_2 (n := n) (prec := prec) ‹_›] | rw [kept_3 (n := n) (prec := prec) ‹_›]
    rfl

set_option maxHeartbeats 1000000 in
theorem text_vf (n : Int) (width : Int) (prec : Int) (w : World) :
    Calls Yba.prog 6 #[.int .i64 n, .agg #[.int .i32 118, .bool false, .int .i64 width, .int .i64 prec]] w fun e w' => e = .returned (.int .i64 (keptF n prec)) ∧ Below w.heap.size w w' := by
  go_enter Yba.func6, Yba.ntmps6
  go_wp2
  all_goals
    go_ret
    refine ⟨?_, bel1 _ _⟩
    first | rw [kept_1 (n := n) (prec := prec) ‹_› ‹_›] | rw [kept_2 (n := n) (prec := prec) ‹_›] | rw [kept_3 (n := n) (prec := prec) ‹_›]
    rfl

theorem belT {w w1 w2 : World} (h : Below w.heap.size w w1) (k : Below w1.heap.size w1 w2) : Below w.heap.size w w2 := h.trans (k.mono h.size)

set_option maxHeartbeats 1000000 in
theorem text_ot (n r width prec : Int) (w : World) (h1 : (r == 115) = false) (h2 : (r == 113) = false) (h3 : (r == 120) = false) (h4 : (r == 88) = false) (h5 : (r == 118) = false) :
    Calls Yba.prog 6 #[.int .i64 n, .agg #[.int .i32 r, .bool true, .int .i64 width, .int .i64 prec]] w fun e w' => e = .returned (.int .i64 (quoF (keptF n prec))) ∧ Below w.heap.size w w' := by
  go_enter Yba.func6, Yba.ntmps6
  go_wp2_with fail
  all_goals
    refine (text_vt n width prec _).mono ?_
    rintro e w1 ⟨rfl, hb⟩
    go_wp2
    go_ret
    exact ⟨rfl, belT (bel1 _ _) hb⟩

set_option maxHeartbeats 1000000 in
theorem text_of (n r width prec : Int) (w : World) (h1 : (r == 115) = false) (h2 : (r == 113) = false) (h3 : (r == 120) = false) (h4 : (r == 88) = false) (h5 : (r == 118) = false) :
    Calls Yba.prog 6 #[.int .i64 n, .agg #[.int .i32 r, .bool false, .int .i64 width, .int .i64 prec]] w fun e w' => e = .returned (.int .i64 (keptF n prec)) ∧ Below w.heap.size w w' := by
  go_enter Yba.func6, Yba.ntmps6
  go_wp2_with fail
  all_goals
    refine (text_vf n width prec _).mono ?_
    rintro e w1 ⟨rfl, hb⟩
    go_wp2
    go_ret
    exact ⟨rfl, belT (bel1 _ _) hb⟩

/-- What both functions answer. -/
def outF (n r : Int) (sharp : Bool) (prec : Int) : Int :=
  if r = 115 then keptF n prec else if r = 113 then quoF (keptF n prec) else if r = 120 then hxoF (hexF n prec) else if r = 88 then hxoF (hexF n prec) else if sharp = true then quoF (keptF n prec) else keptF n prec

theorem model_any (n r : Int) (sharp : Bool) (prec : Int) (w : World) :
    Calls Yba.prog 7 #[.int .i64 n, .int .i32 r, .bool sharp, .int .i64 prec] w fun e w' => e = .returned (.int .i64 (outF n r sharp prec)) ∧ Below w.heap.size w w' := by
  unfold outF
  by_cases h1 : r = 115
  · subst h1; rw [if_pos rfl]; exact model_s n sharp prec w
  rw [if_neg h1]
  by_cases h2 : r = 113
  · subst h2; rw [if_pos rfl]; exact model_q n sharp prec w
  rw [if_neg h2]
  by_cases h3 : r = 120
  · subst h3; rw [if_pos rfl]; exact model_x n sharp prec w
  rw [if_neg h3]
  by_cases h4 : r = 88
  · subst h4; rw [if_pos rfl]; exact model_X n sharp prec w
  rw [if_neg h4]
  cases sharp
  · exact model_f n r prec w (beq_eq_false_iff_ne.2 h1) (beq_eq_false_iff_ne.2 h2) (beq_eq_false_iff_ne.2 h3) (beq_eq_false_iff_ne.2 h4)
  · exact model_t n r prec w (beq_eq_false_iff_ne.2 h1) (beq_eq_false_iff_ne.2 h2) (beq_eq_false_iff_ne.2 h3) (beq_eq_false_iff_ne.2 h4)

theorem text_any (n r : Int) (sharp : Bool) (width prec : Int) (w : World) :
    Calls Yba.prog 6 #[.int .i64 n, .agg #[.int .i32 r, .bool sharp, .int .i64 width, .int .i64 prec]] w fun e w' => e = .returned (.int .i64 (outF n r sharp prec)) ∧ Below w.heap.size w w' := by
  unfold outF
  by_cases h1 : r = 115
  · subst h1; rw [if_pos rfl]; exact text_s n sharp width prec w
  rw [if_neg h1]
  by_cases h2 : r = 113
  · subst h2; rw [if_pos rfl]; exact text_q n sharp width prec w
  rw [if_neg h2]
  by_cases h3 : r = 120
  · subst h3; rw [if_pos rfl]; exact text_x n sharp width prec w
  rw [if_neg h3]
  by_cases h4 : r = 88
  · subst h4; rw [if_pos rfl]; exact text_X n sharp width prec w
  rw [if_neg h4]
  by_cases h5 : r = 118
  · subst h5
    cases sharp
    · exact text_vf n width prec w
    · exact text_vt n width prec w
  cases sharp
  · exact text_of n r width prec w (beq_eq_false_iff_ne.2 h1) (beq_eq_false_iff_ne.2 h2) (beq_eq_false_iff_ne.2 h3) (beq_eq_false_iff_ne.2 h4) (beq_eq_false_iff_ne.2 h5)
  · exact text_ot n r width prec w (beq_eq_false_iff_ne.2 h1) (beq_eq_false_iff_ne.2 h2) (beq_eq_false_iff_ne.2 h3) (beq_eq_false_iff_ne.2 h4) (beq_eq_false_iff_ne.2 h5)

set_option maxHeartbeats 1000000 in
theorem pick_any (sel raw : Int) (w : World) (h0 : 0 ≤ sel) (h1 : sel ≤ 255) :
    Calls Yba.prog 5 #[.int .u8 sel, .int .i32 raw] w fun e w' => (∃ r : Int, e = .returned (.int .i32 r)) ∧ Below w.heap.size w w' := by
  go_enter Yba.func5, Yba.ntmps5
  go_wp2
  all_goals
    go_ret
    exact ⟨⟨_, rfl⟩, Below.refl _ _⟩

set_option maxHeartbeats 1000000 in
theorem law_any (n sel raw : Int) (sharp : Bool) (width prec : Int) (w : World) (h0 : 0 ≤ sel) (h1 : sel ≤ 255) :
    Calls Yba.prog 3 #[.int .i64 n, .int .u8 sel, .int .i32 raw, .bool sharp, .int .i64 width, .int .i64 prec] w fun e w' => e = .returned (.bool true) ∧ Below w.heap.size w w' := by
  go_enter Yba.func3, Yba.ntmps3
  go_wp2_with fail
  refine (pick_any sel raw _ h0 h1).mono ?_
  rintro e w1 ⟨⟨r, rfl⟩, hb1⟩
  go_wp2_with fail
  refine (text_any n r sharp width prec _).mono ?_
  rintro e w2 ⟨rfl, hb2⟩
  go_wp2_with fail
  refine (model_any n r sharp prec _).mono ?_
  rintro e w3 ⟨rfl, hb3⟩
  go_wp2
  go_ret
  exact ⟨rfl, belT hb1 (belT hb2 hb3)⟩
end Go.Proofs.Ybulktkm
