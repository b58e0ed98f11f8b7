import Derived.Test.YbulkszsCLawP
namespace Go.Proofs.Ybulkszs
open Go.RowKit

set_option maxRecDepth 100000 in
set_option maxHeartbeats 4000000 in
theorem zero_ask0 (a : Option Addr) (cap : Nat) (es : Nat → Ent) (dropping : Bool) (started : Int) (off_ : Bool) (offAt at_ ask : Int) (w : World) (ha0 : 0 ≤ ask) (ha1 : ask ≤ 255) (hask : ask % 4 = 0) :
    Calls Yba.prog 8 #[.slice a 0 cap, .bool dropping, .int .i64 started, .bool off_, .int .i64 offAt, .int .i64 at_, .int .u8 ask] w fun e w' => e = .returned (.bool true) ∧ Below w.heap.size w w' := by
  obtain ⟨i0, hi, hz0, hz1, hz2⟩ := info_parts info58
  go_enter Yba.func8, Yba.ntmps8
  go_wp2_with (at_make; refine wpList_make_full _ rfl _ _ 52 rfl w.heap.size 58 i0 zero58 14 Yba.underlying52 hi hz0 hz1 _ _ _ _ 0 rfl rfl rfl rfl ?b2 ?b3 ?b4 ?_)
  case b2 => omega
  case b3 => unfold maxLen; omega
  case b4 => exact Nat.le_refl _
  intro w1 hown1 hg1
  obtain ⟨ht1, hlt1⟩ := there_of_owns hown1
  have hw1 : Below w.heap.size w w1 := (Below.refl _ _).grown hg1 (Nat.le_refl _) (by intro k e; cases e)
  clear hown1 hg1 hi hz0 hz1 hz2 ht1
  go_wp2_with fail
  go_loopw [16] (fun i wr => i = .int .i64 0 ∧ Below w.heap.size w wr ∧ w.heap.size < wr.heap.size) (fun _ _ => 0)
  case atStart => exact ⟨rfl, hw1, hlt1⟩
  case round =>
    obtain ⟨rfl, hwr, hgr⟩ := hrel
    clear hlt1 hw1
    have hmm := @run_makeMap Yba.prog
    have hen := fun (a : Option Addr) (n c : Nat) (w : World) => Lib.run_eql_slice_nil (P := Yba.prog) w 80 83 a n c 0 0 Yba.underlying80
    have hnen := fun (a : Option Addr) (n c : Nat) (w : World) => run_neq_slice_nil_any (P := Yba.prog) w 80 83 a n c 0 0 Yba.underlying80
    have hins : ∀ (O : Obj) (v : Value), (Instr.mapUpdate 70 (.map (some (wr.heap.size + 1))) (.string { data := #[117, 101, 49] }) v).run Yba.prog ((wr.alloc O).alloc (.map #[] 0)) = .ok () ((wr.alloc O).alloc (.map #[⟨.string { data := #[117, 101, 49] }, v, 0⟩] 1)) := by
      intro O v
      have := run_insert (wr.alloc O) v
      rwa [World.size_alloc] at this
    go_wp2_with fail
    refine ((callsIn_wide (n := 3)).1 (holdsOf_none 3 (wr.heap.size + 1 + 1 + 1) (wr.heap.size + 1) wr.heap.size w.heap.size 0 dropping started off_ offAt es at_ _ (by exact aud_made _ _ _ (fun j hj => absurd hj (by omega)) hgr rfl rfl rfl rfl rfl rfl))).mono ?_
    rintro e w2 ⟨rfl, hb2⟩
    go_wp2
    go_ret
    exact ⟨rfl, belT (hwr.trans (bel4 _ _ _ _ _ |>.mono hwr.size)) hb2⟩

set_option maxRecDepth 100000 in
set_option maxHeartbeats 4000000 in
theorem zero_some (a : Option Addr) (cap : Nat) (es : Nat → Ent) (dropping : Bool) (started : Int) (off_ : Bool) (offAt at_ ask : Int) (w : World) (ha0 : 0 ≤ ask) (ha1 : ask ≤ 255) (tt : Int) (htt : tt = if off_ = true then offAt else at_) (hask : ¬ ask % 4 = 0) :
    Calls Yba.prog 8 #[.slice a 0 cap, .bool dropping, .int .i64 started, .bool off_, .int .i64 offAt, .int .i64 at_, .int .u8 ask] w fun e w' => e = .returned (.bool true) ∧ Below w.heap.size w w' := by
  have HT0 := hide htt
  clear htt
  obtain ⟨i0, hi, hz0, hz1, hz2⟩ := info_parts info58
  go_enter Yba.func8, Yba.ntmps8
  go_wp2_with (at_make; refine wpList_make_full _ rfl _ _ 52 rfl w.heap.size 58 i0 zero58 14 Yba.underlying52 hi hz0 hz1 _ _ _ _ 0 rfl rfl rfl rfl ?b2 ?b3 ?b4 ?_)
  case b2 => omega
  case b3 => unfold maxLen; omega
  case b4 => exact Nat.le_refl _
  intro w1 hown1 hg1
  obtain ⟨ht1, hlt1⟩ := there_of_owns hown1
  have hw1 : Below w.heap.size w w1 := (Below.refl _ _).grown hg1 (Nat.le_refl _) (by intro k e; cases e)
  clear hown1 hg1 hi hz0 hz1 hz2 ht1
  go_wp2_with fail
  go_loopw [16] (fun i wr => i = .int .i64 0 ∧ Below w.heap.size w wr ∧ w.heap.size < wr.heap.size) (fun _ _ => 0)
  case atStart => exact ⟨rfl, hw1, hlt1⟩
  case round =>
    obtain ⟨rfl, hwr, hgr⟩ := hrel
    clear hlt1 hw1
    have hmm := @run_makeMap Yba.prog
    have hen := fun (a : Option Addr) (n c : Nat) (w : World) => Lib.run_eql_slice_nil (P := Yba.prog) w 80 83 a n c 0 0 Yba.underlying80
    have hnen := fun (a : Option Addr) (n c : Nat) (w : World) => run_neq_slice_nil_any (P := Yba.prog) w 80 83 a n c 0 0 Yba.underlying80
    have hins : ∀ (O : Obj) (v : Value), (Instr.mapUpdate 70 (.map (some (wr.heap.size + 1))) (.string { data := #[117, 101, 49] }) v).run Yba.prog ((wr.alloc O).alloc (.map #[] 0)) = .ok () ((wr.alloc O).alloc (.map #[⟨.string { data := #[117, 101, 49] }, v, 0⟩] 1)) := by
      intro O v
      have := run_insert (wr.alloc O) v
      rwa [World.size_alloc] at this
    go_wp2_with fail
    have htt := HT0.out
    refine ((callsIn_wide (n := 3)).1 (holdsOf_some 3 (by omega) (wr.heap.size + 1 + 1 + 1) (wr.heap.size + 1) wr.heap.size w.heap.size 0 dropping started off_ offAt es (by omega) at_ tt htt _ (by exact aud_made _ _ _ (fun j hj => absurd hj (by omega)) hgr rfl rfl rfl rfl rfl rfl))).mono ?_
    rintro e w2 ⟨v, rfl, hown, hnil, hb2⟩
    have hw2 : Below w.heap.size w w2 := belT (hwr.trans (bel4 _ _ _ _ _ |>.mono hwr.size)) hb2
    have HT : Hid (tt = if off_ = true then offAt else at_) := htt
    obtain rfl : v = .slice none 0 0 := hnil.2 rfl
    clear hb2 hwr hgr hins hmm htt hask HT0 hown hnil
    go_upto_if 89 with fail
    go_cut [22] (fun s22 wx => s22 = .int .i64 tt ∧ w2 = wx)
    case first =>
      go_wp2_with fail
      all_goals (go_meet; exact ⟨by first | exact t_on HT ‹_› | exact t_off HT ‹_› | exact t_off HT (by simp [*]), rfl⟩)
    case rest =>
    obtain ⟨rfl, rfl⟩ := hcut
    go_wp2_with fail
    go_loopw [23, 24] (fun kk i wr2 => i = .int .i64 0 ∧ kk = .int .i64 0 ∧ Below w2.heap.size w2 wr2) (fun _ _ _ => 0)
    case atStart => exact ⟨rfl, rfl, Below.refl _ _⟩
    case round =>
      obtain ⟨rfl, rfl, hbr⟩ := hrel
      go_wp2
      go_ret
      exact ⟨rfl, belT hw2 hbr⟩

set_option maxRecDepth 100000 in
set_option maxHeartbeats 4000000 in
theorem law_many (a : Option Addr) (len cap : Nat) (dropping : Bool) (started : Int) (off_ : Bool) (offAt at_ ask : Int) (w : World) (hlen : (1024 : Int) < (len : Int)) :
    Calls Yba.prog 8 #[.slice a len cap, .bool dropping, .int .i64 started, .bool off_, .int .i64 offAt, .int .i64 at_, .int .u8 ask] w fun e w' => e = .returned (.bool true) ∧ Below w.heap.size w w' := by
  go_enter Yba.func8, Yba.ntmps8
  go_wp2
  go_ret
  exact ⟨rfl, Below.refl _ _⟩
end Go.Proofs.Ybulkszs
