import Derived.Test.YbulkszsCLawP
namespace Go.Proofs.Ybulkszs
open Go.RowKit

set_option maxRecDepth 100000 in
set_option maxHeartbeats 4000000 in
theorem law_ask0 (b off len cap : Nat) (es : Nat → Ent) (dropping : Bool) (started : Int) (off_ : Bool) (offAt at_ ask : Int) (w : World) (hb : b < w.heap.size) (hrow : Row54 w b off len es) (hlen : (len : Int) ≤ 1024) (ha0 : 0 ≤ ask) (ha1 : ask ≤ 255) (hask : ask % 4 = 0) :
    Calls Yba.prog 8 #[.slice (some ⟨b, off, none⟩) len cap, .bool dropping, .int .i64 started, .bool off_, .int .i64 offAt, .int .i64 at_, .int .u8 ask] w fun e w' => e = .returned (.bool true) ∧ Below w.heap.size w w' := by
  have hlen' : len ≤ 1024 := by omega
  have hgt : ¬ (1024 : Int) < (len : Int) := by omega
  obtain ⟨i0, hi, hz0, hz1, hz2⟩ := info_parts info58
  go_enter Yba.func8, Yba.ntmps8
  go_wp2_with (at_make; refine wpList_make_full _ rfl _ _ 52 rfl w.heap.size 58 i0 zero58 14 Yba.underlying52 hi hz0 hz1 _ _ _ _ len rfl rfl rfl rfl ?b2 ?b3 ?b4 ?_)
  case b2 => omega
  case b3 => unfold maxLen; omega
  intro w1 hown1 hg1
  obtain ⟨ht1, hlt1⟩ := there_of_owns hown1
  have hw1 : Below w.heap.size w w1 := (Below.refl _ _).grown hg1 (Nat.le_refl _) (by intro k e; cases e)
  clear hown1 hg1 hi hz0 hz1 hz2
  go_wp2_with fail
  go_loopw [16] (fun i wr => ∃ k : Nat, k ≤ len ∧ i = .int .i64 k ∧ Hid (∀ j, j < k → wr.rangeAt w.heap.size (j * 14) (heldA (es j)).toList) ∧ Hid (wr.there w.heap.size 0 (len * 14)) ∧ Below w.heap.size w wr ∧ w.heap.size < wr.heap.size) (fun i _ => len - (intOf i).toNat)
  case atStart => exact ⟨0, Nat.zero_le _, rfl, (fun j hj => absurd hj (by omega)), ht1, hw1, hlt1⟩
  case round =>
    obtain ⟨k, hk, rfl, hra, hth, hwr, hgr⟩ := hrel
    by_cases hlt : k < len
    · obtain ⟨c0, c1, c2, c3, s0, s1⟩ := hrow k hlt
      have d0 := (hwr.cell (p := ⟨b, off + k * 4, none⟩) hb).trans c0
      have d1 := (hwr.cell (p := ⟨b, off + k * 4 + 1, none⟩) hb).trans c1
      have d2 := (hwr.cell (p := ⟨b, off + k * 4 + 2, none⟩) hb).trans c2
      have d3 := (hwr.cell (p := ⟨b, off + k * 4 + 3, none⟩) hb).trans c3
      have hbr : b < wr.heap.size := Nat.lt_of_lt_of_le hb hwr.size
      have hkl : (k : Int) < (len : Int) := by omega
      clear c0 c1 c2 c3
      go_upto_region 13 with (go_at_call 15; refine (ctimer_any (es k).sel _ s0 s1).mono ?_; rintro e w' ⟨rfl, rfl⟩)
      go_wp2_with (refine wpList_store_mid (by rfl) 58 _ _ (by rfl) w.heap.size (k * 14) (heldA (es k)) (by rfl) (by rfl) ?t1 ?t2 ?t3 ?_)
      case t1 => exact there_sub (World.there_alloc (World.there_alloc hth.out _) _) (by rw [heldA_size]; omega)
      case t2 => exact size58
      case t3 => exact heldA_one _
      exact ⟨⟨k + 1, by omega, by go_num, fill_step hlt hra.out hth.out hwr hgr _ _⟩, by simp [intOf]; omega⟩
    · obtain rfl : len = k := by omega
      clear hlt hk ht1 hlt1 hw1
      have hmm := @run_makeMap Yba.prog
      have hen := fun (a : Option Addr) (n c : Nat) (w : World) => Lib.run_eql_slice_nil (P := Yba.prog) w 80 83 a n c 0 0 Yba.underlying80
      have hnen := fun (a : Option Addr) (n c : Nat) (w : World) => run_neq_slice_nil_any (P := Yba.prog) w 80 83 a n c 0 0 Yba.underlying80
      have hins : ∀ (O : Obj) (v : Value), (Instr.mapUpdate 70 (.map (some (wr.heap.size + 1))) (.string { data := #[117, 101, 49] }) v).run Yba.prog ((wr.alloc O).alloc (.map #[] 0)) = .ok () ((wr.alloc O).alloc (.map #[⟨.string { data := #[117, 101, 49] }, v, 0⟩] 1)) := by
        intro O v
        have := run_insert (wr.alloc O) v
        rwa [World.size_alloc] at this
      go_wp2_with fail
      refine ((callsIn_wide (n := 3)).1 (holdsOf_none 3 (wr.heap.size + 1 + 1 + 1) (wr.heap.size + 1) wr.heap.size w.heap.size len dropping started off_ offAt es at_ _ (by exact aud_made _ _ _ hra.out hgr rfl rfl rfl rfl rfl rfl))).mono ?_
      rintro e w2 ⟨rfl, hb2⟩
      go_wp2
      go_ret
      exact ⟨rfl, belT (hwr.trans (bel4 _ _ _ _ _ |>.mono hwr.size)) hb2⟩
end Go.Proofs.Ybulkszs
