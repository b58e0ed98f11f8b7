import Derived.Test.YbulkszsCLawP
namespace Go.Proofs.Ybulkszs
open Go.RowKit

set_option maxRecDepth 100000 in
set_option maxHeartbeats 4000000 in
theorem law_ne_t (b off len cap : Nat) (es : Nat → Ent) (started : Int) (off_ : Bool) (offAt at_ ask : Int) (w : World) (hb : b < w.heap.size) (hrow : Row54 w b off len es) (hlen : (len : Int) ≤ 1024) (ha0 : 0 ≤ ask) (ha1 : ask ≤ 255) (tt : Int) (htt : tt = if off_ = true then offAt else at_) (hask : ¬ ask % 4 = 0) (hE : ¬ outL tt (keptL true started es len) = []) :
    Calls Yba.prog 8 #[.slice (some ⟨b, off, none⟩) len cap, .bool true, .int .i64 started, .bool off_, .int .i64 offAt, .int .i64 at_, .int .u8 ask] w fun e w' => e = .returned (.bool true) ∧ Below w.heap.size w w' := by
  have hlen' : len ≤ 1024 := by omega
  have hgt : ¬ (1024 : Int) < (len : Int) := by omega
  obtain ⟨i0, hi, hz0, hz1, hz2⟩ := info_parts info58
  have HT0 := hide htt
  have HE0 := hide hE
  clear htt hE
  go_enter Yba.func8, Yba.ntmps8
  go_wp2_with (at_make; refine wpList_make_full _ rfl _ _ 52 rfl w.heap.size 58 i0 zero58 14 Yba.underlying52 hi hz0 hz1 _ _ _ _ len rfl rfl rfl rfl ?b2 ?b3 ?b4 ?_)
  case b2 => omega
  case b3 => unfold maxLen; omega
  intro w1 hown1 hg1
  obtain ⟨ht1, hlt1⟩ := there_of_owns hown1
  have hw1 : Below w.heap.size w w1 := (Below.refl _ _).grown hg1 (Nat.le_refl _) (by intro k e; cases e)
  clear hown1 hg1 hi hz0 hz1 hz2
  go_wp2_with fail
  go_loopw [16] (fun i wr => ∃ k : Nat, k ≤ len ∧ i = .int .i64 k ∧ Hid (∀ j, j < k → wr.rangeAt w.heap.size (j * 14) (heldA (es j)).toList) ∧ Hid (wr.there w.heap.size 0 (len * 14)) ∧ Below w.heap.size w wr ∧ w.heap.size < wr.heap.size) (fun i _ => len - (intOf i).toNat)
  case atStart => exact ⟨0, Nat.zero_le _, rfl, (fun j hj => absurd hj (by omega)), ht1, hw1, hlt1⟩
  case round =>
    obtain ⟨k, hk, rfl, hra, hth, hwr, hgr⟩ := hrel
    by_cases hlt : k < len
    · obtain ⟨c0, c1, c2, c3, s0, s1⟩ := hrow k hlt
      have d0 := (hwr.cell (p := ⟨b, off + k * 4, none⟩) hb).trans c0
      have d1 := (hwr.cell (p := ⟨b, off + k * 4 + 1, none⟩) hb).trans c1
      have d2 := (hwr.cell (p := ⟨b, off + k * 4 + 2, none⟩) hb).trans c2
      have d3 := (hwr.cell (p := ⟨b, off + k * 4 + 3, none⟩) hb).trans c3
      have hbr : b < wr.heap.size := Nat.lt_of_lt_of_le hb hwr.size
      have hkl : (k : Int) < (len : Int) := by omega
      clear c0 c1 c2 c3
      go_upto_region 13 with (go_at_call 15; refine (ctimer_any (es k).sel _ s0 s1).mono ?_; rintro e w' ⟨rfl, rfl⟩)
      go_wp2_with (refine wpList_store_mid (by rfl) 58 _ _ (by rfl) w.heap.size (k * 14) (heldA (es k)) (by rfl) (by rfl) ?t1 ?t2 ?t3 ?_)
      case t1 => exact there_sub (World.there_alloc (World.there_alloc hth.out _) _) (by rw [heldA_size]; omega)
      case t2 => exact size58
      case t3 => exact heldA_one _
      exact ⟨⟨k + 1, by omega, by go_num, fill_step hlt hra.out hth.out hwr hgr _ _⟩, by simp [intOf]; omega⟩
    · obtain rfl : len = k := by omega
      clear hlt hk ht1 hlt1 hw1
      have hmm := @run_makeMap Yba.prog
      have hen := fun (a : Option Addr) (n c : Nat) (w : World) => Lib.run_eql_slice_nil (P := Yba.prog) w 80 83 a n c 0 0 Yba.underlying80
      have hnen := fun (a : Option Addr) (n c : Nat) (w : World) => run_neq_slice_nil_any (P := Yba.prog) w 80 83 a n c 0 0 Yba.underlying80
      have hins : ∀ (O : Obj) (v : Value), (Instr.mapUpdate 70 (.map (some (wr.heap.size + 1))) (.string { data := #[117, 101, 49] }) v).run Yba.prog ((wr.alloc O).alloc (.map #[] 0)) = .ok () ((wr.alloc O).alloc (.map #[⟨.string { data := #[117, 101, 49] }, v, 0⟩] 1)) := by
        intro O v
        have := run_insert (wr.alloc O) v
        rwa [World.size_alloc] at this
      go_wp2_with fail
      have htt := HT0.out
      refine ((callsIn_wide (n := 3)).1 (holdsOf_some 3 (by omega) (wr.heap.size + 1 + 1 + 1) (wr.heap.size + 1) wr.heap.size w.heap.size len true started off_ offAt es hlen' at_ tt htt _ (by exact aud_made _ _ _ hra.out hgr rfl rfl rfl rfl rfl rfl))).mono ?_
      rintro e w2 ⟨v, rfl, hown, hnil, hb2⟩
      have hw2 : Below w.heap.size w w2 := belT (hwr.trans (bel4 _ _ _ _ _ |>.mono hwr.size)) hb2
      have HT : Hid (tt = if off_ = true then offAt else at_) := htt
      have hE := HE0.out
      clear HT0 HE0
      clear hb2 hra hth hwr hgr hins hmm htt hask
      obtain ⟨g, gc, rfl, hglt, hgc⟩ := got_form hown hE
      clear hown hnil
      have hnz : 0 < cnt tt true started es len := by
        unfold cnt
        exact List.length_pos_iff.2 hE
      rw [show (outL tt (keptL true started es len)).length = cnt tt true started es len from rfl]
      have HG := hide hgc
      clear hgc hE
      go_upto_if 89 with fail
      go_cut [22] (fun s22 wx => s22 = .int .i64 tt ∧ w2 = wx)
      case first =>
        go_wp2_with fail
        all_goals (go_meet; exact ⟨by first | exact t_on HT ‹_› | exact t_off HT ‹_› | exact t_off HT (by simp [*]), rfl⟩)
      case rest =>
      obtain ⟨rfl, rfl⟩ := hcut
      go_wp2_with fail
      go_loopw [23, 24] (fun kk i wr2 => ∃ k : Nat, k ≤ len ∧ i = .int .i64 k ∧ kk = .int .i64 ((cnt tt true started es k : Nat) : Int) ∧ Below w2.heap.size w2 wr2) (fun _ i _ => len - (intOf i).toNat)
      case atStart => exact ⟨0, Nat.zero_le _, rfl, rfl, Below.refl _ _⟩
      case round =>
        obtain ⟨k, hk, rfl, rfl, hbr⟩ := hrel
        have hsz := hbr.size
        by_cases hlt : k < len
        · obtain ⟨c0, c1, c2, c3, s0, s1⟩ := hrow k hlt
          have hx : Below w.heap.size w wr := belT hw2 hbr
          have d0 := (hx.cell (p := ⟨b, off + k * 4, none⟩) hb).trans c0
          have d1 := (hx.cell (p := ⟨b, off + k * 4 + 1, none⟩) hb).trans c1
          have d2 := (hx.cell (p := ⟨b, off + k * 4 + 2, none⟩) hb).trans c2
          have d3 := (hx.cell (p := ⟨b, off + k * 4 + 3, none⟩) hb).trans c3
          have hbb : b < wr.heap.size := Nat.lt_of_lt_of_le hb hx.size
          have hgg : g < wr.heap.size := Nat.lt_of_lt_of_le hglt hbr.size
          have hkl : (k : Int) < (len : Int) := by omega
          have hcl := cnt_le tt true started es k
          clear c0 c1 c2 c3 hx
          by_cases hA : (es k).sel % 4 = 0
          · have HC := hide (cnt_no1 (t := tt) (kpE_a (dropping := true) (started := started) hA))
            go_wp2
            exact ⟨⟨k + 1, by omega, by go_num, by rw [HC.out], hbr.alloc hbr.size _⟩, by simp [intOf]; omega⟩
          · cases hd : (es k).deact
            · rw [hd] at d2
              by_cases hB : (es k).unt ≤ started
              · have HC := hide (cnt_no1 (t := tt) (kpE_b hd hB))
                go_wp2
                exact ⟨⟨k + 1, by omega, by go_num, by rw [HC.out], hbr.alloc hbr.size _⟩, by simp [intOf]; omega⟩
              · by_cases hU : tt < (es k).unt
                · as_aux_lemma =>
                    have h1 : kpE true started (es k) = true := kpE_yes hA (.inr (.inr (by omega)))
                    have h2 : hAt (es k).deact tt (es k).unt = true := hAt_yes (.inr hU)
                    have HC := hide (cnt_yes h1 h2)
                    have hga := got_at hlt h1 h2
                    have hcg : cnt tt true started es k < cnt tt true started es len := (List.getElem?_eq_some_iff.1 hga).1
                    have hci : ((cnt tt true started es k : Nat) : Int) < ((cnt tt true started es len : Nat) : Int) := by omega
                    obtain ⟨f0, f1, f2, f3, f4, f5, f6, f7, f8, f9, f10, f11, f12, f13, f14⟩ := got_cells (HG.out _ _ hga) hbr hglt
                    rw [hd] at f13
                    clear h1 h2 hga
                    go_wp2_with fail
                    go_quiet ((go_at_call 15; exact Calls.quiet_of_same (ctimer_any (es k).sel _ s0 s1)))
                    go_wp2
                    exact ⟨⟨k + 1, by omega, by go_num, by rw [HC.out]; go_num, ((hbr.alloc hbr.size _).alloc (by simp; omega) _).trans (belN _ _ _)⟩, by simp [intOf]; omega⟩
                · have HC := hide (cnt_no2 (dropping := true) (started := started) (hAt_no hd (show (es k).unt ≤ tt by omega)))
                  go_wp2
                  exact ⟨⟨k + 1, by omega, by go_num, by rw [HC.out], hbr.alloc hbr.size _⟩, by simp [intOf]; omega⟩
            · rw [hd] at d2
              as_aux_lemma =>
                have h1 : kpE true started (es k) = true := kpE_yes hA (.inl hd)
                have h2 : hAt (es k).deact tt (es k).unt = true := hAt_yes (.inl hd)
                have HC := hide (cnt_yes h1 h2)
                have hga := got_at hlt h1 h2
                have hcg : cnt tt true started es k < cnt tt true started es len := (List.getElem?_eq_some_iff.1 hga).1
                have hci : ((cnt tt true started es k : Nat) : Int) < ((cnt tt true started es len : Nat) : Int) := by omega
                obtain ⟨f0, f1, f2, f3, f4, f5, f6, f7, f8, f9, f10, f11, f12, f13, f14⟩ := got_cells (HG.out _ _ hga) hbr hglt
                rw [hd] at f13
                clear h1 h2 hga
                go_wp2_with fail
                go_quiet ((go_at_call 15; exact Calls.quiet_of_same (ctimer_any (es k).sel _ s0 s1)))
                go_wp2
                exact ⟨⟨k + 1, by omega, by go_num, by rw [HC.out]; go_num, ((hbr.alloc hbr.size _).alloc (by simp; omega) _).trans (belN _ _ _)⟩, by simp [intOf]; omega⟩
        · obtain rfl : len = k := by omega
          have hz : (((cnt tt true started es len : Nat) : Int) == 0) = false := beq_eq_false_iff_ne.2 (by omega)
          go_wp2
          go_ret
          exact ⟨rfl, belT hw2 hbr⟩
end Go.Proofs.Ybulkszs
