import Derived.Test.YbulkszsAPick
import Derived.Deep.DeepCutAuto
namespace Go.Proofs.Ybulkszs
open Go.RowKit

theorem blk_new (w : World) (O : Obj) : (w.alloc O).heap[w.heap.size]? = some O := by
  show (w.heap.push O)[w.heap.size]? = _
  simp
theorem blk_lt {w : World} {b : Nat} {X : Obj} (h : w.heap[b]? = some X) : b < w.heap.size := (Array.getElem?_eq_some_iff.1 h).1
theorem blk_alloc {w : World} {b : Nat} {X : Obj} (h : w.heap[b]? = some X) (O : Obj) : (w.alloc O).heap[b]? = some X := (Below.heap_alloc w O b (blk_lt h)).trans h
theorem blk_below {W w' : World} {b : Nat} {X : Obj} (hb : Below W.heap.size W w') (h : W.heap[b]? = some X) : w'.heap[b]? = some X := (hb.block b (blk_lt h)).trans h
theorem blk_cell {w : World} {b : Nat} {cs : Array Value} {t : TypeId} {fr : Nat × Nat} (h : w.heap[b]? = some (.cells cs t fr)) (o : Nat) : w.cell? ⟨b, o, none⟩ = cs[o]? := by simp [World.cell?, h]
theorem hide {p : Prop} (h : p) : Hid p := h
theorem Eh.later {w w' : World} {a : Option Addr} {len cap : Nat} {ms ns : Nat → ByteArray} (h : Eh w a len cap ms ns) (hb : Below w.heap.size w w') : Eh w' a len cap ms ns := by
  obtain ⟨h1, h2, h3 | h3 | ⟨b, off, rfl, hpos, hlt, hrow⟩⟩ := h
  · exact ⟨h1, h2, .inl h3⟩
  · exact ⟨h1, h2, .inr (.inl h3)⟩
  · exact ⟨h1, h2, .inr (.inr ⟨b, off, rfl, hpos, Nat.lt_of_lt_of_le hlt hb.size, fun i hi => ⟨(hb.cell (p := ⟨b, off + i * 2, none⟩) hlt).trans (hrow i hi).1, (hb.cell (p := ⟨b, off + i * 2 + 1, none⟩) hlt).trans (hrow i hi).2⟩⟩)⟩

set_option maxHeartbeats 1000000 in
theorem exact_many (hm hn pm pn : ByteArray) (a : Option Addr) (len cap : Nat) (t sel k : Int) (w : World) (hlen : (1024 : Int) < (len : Int)) :
    Calls Yba.prog 3 #[.string hm, .string hn, .slice a len cap, .int .i64 t, .string pm, .string pn, .int .u8 sel, .int .u8 k] w fun e w' => e = .returned (.bool true) ∧ Below w.heap.size w w' := by
  go_enter Yba.func3, Yba.ntmps3
  go_wp2
  go_ret
  exact ⟨rfl, Below.refl _ _⟩

theorem smr_a {found : Bool} {t : Int} : smr found true t = 720000000000 := by simp [smr]
theorem smr_b {found noP : Bool} {t : Int} (h : t ≤ 0) : smr found noP t = 720000000000 := by unfold smr; rw [if_neg (by omega)]
theorem smr_c {t : Int} (h : 0 < t) : smr true false t = t := by unfold smr; rw [if_pos ⟨rfl, rfl, h⟩]
theorem smr_d {noP : Bool} {t : Int} : smr false noP t = 720000000000 := by simp [smr]

/-- 'found' behind k rounds. -/
def fnd (ms ns : Nat → ByteArray) (x y hm hn : ByteArray) (k : Nat) : Bool := plEq x y hm hn || hasB ms ns x y k
theorem fnd_zero (ms ns : Nat → ByteArray) (x y hm hn : ByteArray) : Value.bool (plEq x y hm hn) = .bool (fnd ms ns x y hm hn 0) := by simp [fnd, hasB]
theorem fnd_no {ms ns : Nat → ByteArray} {x y hm hn : ByteArray} {k : Nat} (h : ¬ ((ms k).toList = x.toList ∧ (ns k).toList = y.toList)) : fnd ms ns x y hm hn (k + 1) = fnd ms ns x y hm hn k := by
  have : plEq x y (ms k) (ns k) = false := by
    simp only [plEq, Bool.and_eq_false_iff, decide_eq_false_iff_not]
    by_cases e : x.toList = (ms k).toList
    · exact .inr fun e' => h ⟨e.symm, e'.symm⟩
    · exact .inl e
  simp [fnd, hasB, this]
theorem fnd_yes {ms ns : Nat → ByteArray} {x y hm hn : ByteArray} {k : Nat} (h1 : (ms k).toList = x.toList) (h2 : (ns k).toList = y.toList) : fnd ms ns x y hm hn (k + 1) = true := by
  simp [fnd, hasB, plEq, h1, h2]
theorem noPl_1 {x y : ByteArray} (h : x.toList = []) : Value.bool y.toList.isEmpty = .bool (noPl x y) := by
  have e : ({ data := #[] } : ByteArray).toList = [] := by simp
  have e' : ∀ l : List UInt8, l.isEmpty = decide (l = []) := fun l => by cases l <;> simp
  simp [noPl, plEq, e, h, e']
theorem noPl_2 {x y : ByteArray} (h : ¬ x.toList = []) : Value.bool false = .bool (noPl x y) := by
  have e : ({ data := #[] } : ByteArray).toList = [] := by simp
  simp [noPl, plEq, e, h]
theorem plEq_1 {x y hm hn : ByteArray} (h : x.toList = hm.toList) : Value.bool (y.toList == hn.toList) = .bool (plEq x y hm hn) := by
  have e : (y.toList == hn.toList) = decide (y.toList = hn.toList) := by rw [Bool.eq_iff_iff]; simp
  simp [plEq, h, e]
theorem plEq_2 {x y hm hn : ByteArray} (h : ¬ x.toList = hm.toList) : Value.bool false = .bool (plEq x y hm hn) := by
  simp [plEq, h]

set_option maxRecDepth 100000 in
set_option maxHeartbeats 4000000 in
theorem exact_some (hm hn pm pn : ByteArray) (b off len cap : Nat) (t sel k : Int) (ms ns : Nat → ByteArray) (w : World) (hlen : (len : Int) ≤ 1024)
    (h0 : 0 ≤ sel) (h1 : sel ≤ 255) (k0 : 0 ≤ k) (k1 : k ≤ 255) (h : Eh w (some ⟨b, off, none⟩) len cap ms ns) (hb : b < w.heap.size) (hrow : Row24 w b off len ms ns) :
    Calls Yba.prog 3 #[.string hm, .string hn, .slice (some ⟨b, off, none⟩) len cap, .int .i64 t, .string pm, .string pn, .int .u8 sel, .int .u8 k] w fun e w' => e = .returned (.bool true) ∧ Below w.heap.size w w' := by
  have hlen' : len ≤ 1024 := by omega
  have hgt : ¬ (1024 : Int) < (len : Int) := by omega
  have HE := hide h
  clear h
  go_enter Yba.func3, Yba.ntmps3
  go_wp2_with fail
  refine (pick_any hm hn _ len cap pm pn sel k ms ns _ h0 h1 k0 k1 (HE.out.later (bel2 _ _ _))).mono ?_
  rintro e w1 ⟨x, y, rfl, hb1⟩
  have B18 : w1.heap[w.heap.size + 1]? = some (.cells #[.string hm, .string hn, .slice (some ⟨b, off, none⟩) len cap, .int .i64 t] 27) := by
    have := blk_below hb1 (blk_new (w.alloc _) _)
    simpa using this
  have K18 := blk_cell B18
  have N18 := blk_lt B18
  have hw1 : Below w.heap.size w w1 := belT (bel2 _ _ _) hb1
  clear hb1
  go_wp2_with fail
  refine (timer_pl hm hn _ len cap t ms ns x y _ (HE.out.pl.later (belT hw1 (bel1 _ _)))).mono ?_
  rintro e w2 ⟨rfl, hb2⟩
  rw [show (plEq x y hm hn || hasB ms ns x y len) = fnd ms ns x y hm hn len from rfl]
  have B19 := blk_below hb2 (blk_new w1 _)
  have K19 := blk_cell B19
  have N19 := blk_lt B19
  have hw2 : Below w.heap.size w w2 := belT hw1 (belT (bel1 _ _) hb2)
  clear hb2 hw1 B18 K18 N18 B19 HE
  go_upto_region 7 with fail
  go_cut [21] (fun s21 wx => s21 = .bool (noPl x y) ∧ w2 = wx)
  case first =>
    go_wp2_with fail
    all_goals (go_meet; exact ⟨by first | exact noPl_1 ‹_› | exact noPl_2 ‹_›, rfl⟩)
  case rest =>
  obtain ⟨rfl, rfl⟩ := hcut
  go_upto_region 8 with fail
  go_cut [22] (fun s22 wx => s22 = .bool (plEq x y hm hn) ∧ w2 = wx)
  case first =>
    go_wp2_with fail
    all_goals (go_meet; exact ⟨by first | exact plEq_1 ‹_› | exact plEq_2 ‹_›, rfl⟩)
  case rest =>
  obtain ⟨rfl, rfl⟩ := hcut
  go_wp2_with fail
  go_loopw [22, 23] (fun f i wr => ∃ j n : Nat, j ≤ len ∧ i = .int .i64 j ∧ f = .bool (fnd ms ns x y hm hn j) ∧ wr = w2.drewN n) (fun _ i _ => len - (intOf i).toNat)
  case atStart => exact ⟨0, 0, Nat.zero_le _, rfl, fnd_zero ms ns x y hm hn, rfl⟩
  case round =>
    obtain ⟨j, n, hj, rfl, rfl, rfl⟩ := hrel
    by_cases hlt : j < len
    · obtain ⟨c1, c2⟩ := hrow j hlt
      have d1 := (hw2.cell (p := ⟨b, off + j * 2, none⟩) hb).trans c1
      have d2 := (hw2.cell (p := ⟨b, off + j * 2 + 1, none⟩) hb).trans c2
      have hjl : (j : Int) < (len : Int) := by omega
      clear c1 c2
      by_cases e1 : (ms j).toList = x.toList
      · have g1 : ((ms j).toList == x.toList) = true := by simp [e1]
        by_cases e2 : (ns j).toList = y.toList
        · have g2 : ((ns j).toList == y.toList) = true := by simp [e2]
          have HF := hide (fnd_yes (hm := hm) (hn := hn) e1 e2)
          clear e1 e2
          go_wp2
          go_quiet (fail)
          go_wp2
          exact ⟨⟨j + 1, n + nq, by omega, by go_num, by rw [HF.out], rfl⟩, by simp [intOf]; omega⟩
        · have g2 : ((ns j).toList == y.toList) = false := by simp [e2]
          have HF := hide (fnd_no (ms := ms) (ns := ns) (x := x) (y := y) (hm := hm) (hn := hn) (k := j) (fun h => e2 h.2))
          clear e1 e2
          go_wp2
          go_quiet (fail)
          go_wp2
          exact ⟨⟨j + 1, n + nq, by omega, by go_num, by rw [HF.out], rfl⟩, by simp [intOf]; omega⟩
      · have g1 : ((ms j).toList == x.toList) = false := by simp [e1]
        have HF := hide (fnd_no (ms := ms) (ns := ns) (x := x) (y := y) (hm := hm) (hn := hn) (k := j) (fun h => e1 h.1))
        clear e1
        go_wp2
        go_quiet (fail)
        go_wp2
        exact ⟨⟨j + 1, n + nq, by omega, by go_num, by rw [HF.out], rfl⟩, by simp [intOf]; omega⟩
    · obtain rfl : len = j := by omega
      generalize noPl x y = z
      generalize fnd ms ns x y hm hn len = f
      cases z
      · cases f
        · rw [smr_d]
          go_wp2
          go_ret
          exact ⟨rfl, belD hw2 _⟩
        · by_cases ht : 0 < t
          · rw [smr_c ht]
            go_wp2
            go_ret
            exact ⟨rfl, belD hw2 _⟩
          · rw [smr_b (by omega)]
            go_wp2
            go_ret
            exact ⟨rfl, belD hw2 _⟩
      · rw [smr_a]
        go_wp2
        go_ret
        exact ⟨rfl, belD hw2 _⟩

set_option maxRecDepth 100000 in
set_option maxHeartbeats 4000000 in
theorem exact_zero (hm hn pm pn : ByteArray) (a : Option Addr) (cap : Nat) (t sel k : Int) (ms ns : Nat → ByteArray) (w : World)
    (h0 : 0 ≤ sel) (h1 : sel ≤ 255) (k0 : 0 ≤ k) (k1 : k ≤ 255) (h : Eh w a 0 cap ms ns) :
    Calls Yba.prog 3 #[.string hm, .string hn, .slice a 0 cap, .int .i64 t, .string pm, .string pn, .int .u8 sel, .int .u8 k] w fun e w' => e = .returned (.bool true) ∧ Below w.heap.size w w' := by
  have HE := hide h
  clear h
  go_enter Yba.func3, Yba.ntmps3
  go_wp2_with fail
  refine (pick_any hm hn _ 0 cap pm pn sel k ms ns _ h0 h1 k0 k1 (HE.out.later (bel2 _ _ _))).mono ?_
  rintro e w1 ⟨x, y, rfl, hb1⟩
  have B18 : w1.heap[w.heap.size + 1]? = some (.cells #[.string hm, .string hn, .slice a 0 cap, .int .i64 t] 27) := by
    have := blk_below hb1 (blk_new (w.alloc _) _)
    simpa using this
  have K18 := blk_cell B18
  have N18 := blk_lt B18
  have hw1 : Below w.heap.size w w1 := belT (bel2 _ _ _) hb1
  clear hb1
  go_wp2_with fail
  refine (timer_pl hm hn _ 0 cap t ms ns x y _ (HE.out.pl.later (belT hw1 (bel1 _ _)))).mono ?_
  rintro e w2 ⟨rfl, hb2⟩
  rw [show (plEq x y hm hn || hasB ms ns x y 0) = plEq x y hm hn by simp [hasB]]
  have B19 := blk_below hb2 (blk_new w1 _)
  have K19 := blk_cell B19
  have N19 := blk_lt B19
  have hw2 : Below w.heap.size w w2 := belT hw1 (belT (bel1 _ _) hb2)
  clear hb2 hw1 B18 K18 N18 B19 HE
  go_upto_region 7 with fail
  go_cut [21] (fun s21 wx => s21 = .bool (noPl x y) ∧ w2 = wx)
  case first =>
    go_wp2_with fail
    all_goals (go_meet; exact ⟨by first | exact noPl_1 ‹_› | exact noPl_2 ‹_›, rfl⟩)
  case rest =>
  obtain ⟨rfl, rfl⟩ := hcut
  go_upto_region 8 with fail
  go_cut [22] (fun s22 wx => s22 = .bool (plEq x y hm hn) ∧ w2 = wx)
  case first =>
    go_wp2_with fail
    all_goals (go_meet; exact ⟨by first | exact plEq_1 ‹_› | exact plEq_2 ‹_›, rfl⟩)
  case rest =>
  obtain ⟨rfl, rfl⟩ := hcut
  go_wp2_with fail
  go_loopw [22, 23] (fun f i wr => i = .int .i64 0 ∧ f = .bool (plEq x y hm hn) ∧ w2 = wr) (fun _ _ _ => 0)
  case atStart => exact ⟨rfl, rfl, rfl⟩
  case round =>
    obtain ⟨rfl, rfl, rfl⟩ := hrel
    generalize noPl x y = z
    generalize plEq x y hm hn = f
    cases z
    · cases f
      · rw [smr_d]
        go_wp2
        go_ret
        exact ⟨rfl, hw2⟩
      · by_cases ht : 0 < t
        · rw [smr_c ht]
          go_wp2
          go_ret
          exact ⟨rfl, hw2⟩
        · rw [smr_b (by omega)]
          go_wp2
          go_ret
          exact ⟨rfl, hw2⟩
    · rw [smr_a]
      go_wp2
      go_ret
      exact ⟨rfl, hw2⟩

theorem exact_any (hm hn : ByteArray) (a : Option Addr) (len cap : Nat) (t : Int) (pm pn : ByteArray) (sel k : Int) (ms ns : Nat → ByteArray) (w : World) (h : Eh w a len cap ms ns) (h0 : 0 ≤ sel ∧ sel ≤ 255) (k0 : 0 ≤ k ∧ k ≤ 255) :
    Calls Yba.prog 3 #[.string hm, .string hn, .slice a len cap, .int .i64 t, .string pm, .string pn, .int .u8 sel, .int .u8 k] w fun e w' => e = .returned (.bool true) ∧ Below w.heap.size w w' := by
  by_cases hl : (1024 : Int) < (len : Int)
  · exact exact_many hm hn pm pn a len cap t sel k w hl
  · have h' := h
    obtain ⟨_, _, ⟨rfl, rfl, _⟩ | ⟨ad, rfl, rfl⟩ | ⟨b, off, rfl, _, hb, hrow⟩⟩ := h
    · exact exact_zero hm hn pm pn _ cap t sel k ms ns w h0.1 h0.2 k0.1 k0.2 h'
    · exact exact_zero hm hn pm pn _ cap t sel k ms ns w h0.1 h0.2 k0.1 k0.2 h'
    · exact exact_some hm hn pm pn b off len cap t sel k ms ns w (by omega) h0.1 h0.2 k0.1 k0.2 h' hb hrow
theorem u8_bounds {n : Int} (h : (Lit.int .u8 n).wf = true) : 0 ≤ n ∧ n ≤ 255 := by
  have := bounds_u8 h
  omega

namespace lawS0967AExact
open Go.ChangeShapes Go.WideShapes Go.ChangeAt Go.RowKit
open Go.ChangeMaps (open_string shut_string)

set_option maxRecDepth 100000 in
theorem lifted (os : Os) (started : os.Started) (H : Type) (enc : TypeId × Value → H) :
    ReturnsInHanded {} Yba.checked os 3 .any (Rows.lawS0967AExactSpec.pre6 enc Yba.prog Yba.f3 Rows.lawS0967AExactRow.domain false) (Rows.lawS0967AExactSpec.post enc Yba.prog Yba.f3 false true false false) := by
  refine returnsInHanded_of_change (C := Yba.checked) own started (by kernel_rfl) Yba.func3
    (ChangeSpec.witness6 (enc := enc) (C := Yba.checked) false ⟨#[], #[.string ByteArray.empty, .string ByteArray.empty, .slice none 0 0, .int .i64 0, .string ByteArray.empty, .string ByteArray.empty, .int .u8 0, .int .u8 0], []⟩ 8 (by kernel_rfl) (by kernel_rfl) (by kernel_rfl) (by kernel_rfl)) ?_
  intro W base args ds gs before hval0 hW _ _
  have hval : ∀ (j : Nat) t v, Yba.f3.params[j]? = some t → args[j]? = some v → Value.okWide Yba.prog W .any base t v := hval0
  have hW' := hW
  obtain ⟨p, q, hA0, hV, rfl, hfz, hnd⟩ := hW
  have hA : DataW.TrodAll enc Yba.prog W 0 (fun _ => true) true Yba.f3.params.toList args.toList ds p := hA0
  rw [Yba.params3] at hA hval
  obtain ⟨v0, vs0, d0, ds0, p0, q0, hargs, rfl, rfl, h0, r0⟩ := trodAll_cons hA
  obtain ⟨v1, vs1, d1, ds1, p1, q1, rfl, rfl, rfl, h1, r1⟩ := trodAll_cons r0
  obtain ⟨v2, vs2, d2, ds2, p2, q2, rfl, rfl, rfl, h2, r2⟩ := trodAll_cons r1
  obtain ⟨v3, vs3, d3, ds3, p3, q3, rfl, rfl, rfl, h3, r3⟩ := trodAll_cons r2
  obtain ⟨v4, vs4, d4, ds4, p4, q4, rfl, rfl, rfl, h4, r4⟩ := trodAll_cons r3
  obtain ⟨v5, vs5, d5, ds5, p5, q5, rfl, rfl, rfl, h5, r5⟩ := trodAll_cons r4
  obtain ⟨v6, vs6, d6, ds6, p6, q6, rfl, rfl, rfl, h6, r6⟩ := trodAll_cons r5
  obtain ⟨v7, vs7, d7, ds7, p7, q7, rfl, rfl, rfl, h7, r7⟩ := trodAll_cons r6
  obtain ⟨rfl, rfl, rfl⟩ := trodAll_nil r7
  obtain rfl : args = #[v0, v1, v2, v3, v4, v5, v6, v7] := by cases args; simp_all
  obtain ⟨rfl, rfl⟩ := trodVars_none hV
  obtain ⟨a0, rfl, rfl, rfl, w0⟩ := open_string Yba.underlying9 (hval 0 9 v0 rfl rfl) h0
  obtain ⟨a1, rfl, rfl, rfl, w1⟩ := open_string Yba.underlying9 (hval 1 9 v1 rfl rfl) h1
  obtain ⟨sa2, sl2, sc2, rfl⟩ := okWide_slice Yba.underlying22 (hval 2 22 v2 rfl rfl)
  have lt2 : ∀ x ∈ p2, x.block < W.heap.size := by obtain ⟨m, hm⟩ := h2; exact DataW.trod_lt m _ _ _ hm
  obtain ⟨ms2, ns2, hs2⟩ := eh_open h2
  obtain ⟨a3, rfl, rfl, rfl, w3⟩ := open_int Yba.underlying2 (hval 3 2 v3 rfl rfl) h3
  obtain ⟨a4, rfl, rfl, rfl, w4⟩ := open_string Yba.underlying9 (hval 4 9 v4 rfl rfl) h4
  obtain ⟨a5, rfl, rfl, rfl, w5⟩ := open_string Yba.underlying9 (hval 5 9 v5 rfl rfl) h5
  obtain ⟨a6, rfl, rfl, rfl, w6⟩ := open_int Yba.underlying5 (hval 6 5 v6 rfl rfl) h6
  obtain ⟨a7, rfl, rfl, rfl, w7⟩ := open_int Yba.underlying5 (hval 7 5 v7 rfl rfl) h7
  clear hA0 hval0
  refine (exact_any a0 a1 sa2 sl2 sc2 a3 a4 a5 a6 a7 ms2 ns2 W hs2 (u8_bounds w6) (u8_bounds w7)).mono fun e W' ⟨he, bel⟩ => ?_
  subst he
  exact ⟨_, rfl, _, _, _, [], _, [], hW', trodAll_mk1 (shut_bool Yba.underlying4 _), (trodAll_cons_mk (shut_string Yba.underlying9 w0) (trodAll_cons_mk (shut_string Yba.underlying9 w1) (trodAll_cons_mk (Below.trod laidOut (by kernel_rfl) (of_decide_eq_true (by kernel_rfl)) h2 bel lt2) (trodAll_cons_mk (shut_int Yba.underlying2 w3) (trodAll_cons_mk (shut_string Yba.underlying9 w4) (trodAll_cons_mk (shut_string Yba.underlying9 w5) (trodAll_cons_mk (shut_int Yba.underlying5 w6) (trodAll_cons_mk (shut_int Yba.underlying5 w7) trodAll_mk0)))))))), rfl, bel.frame _, fun h => by cases h⟩

theorem over : Rows.lawS0967AExactRow.holds Yba.pinned (OpenSpec.ofChange Rows.lawS0967AExactSpec) :=
  OpenClaim.holds_of_wide 3 Yba.f3 rfl rfl rfl rfl rfl rfl rfl ⟨rfl, rfl, rfl, rfl, rfl⟩ rfl rfl rfl rfl rfl (by kernel_rfl) Yba.func3 (by kernel_rfl)
    (of_decide_eq_true (by kernel_rfl)) (by unfold Func.isWrapper; first | (rw [if_pos (by decide +kernel)]; kernel_rfl) | (rw [if_neg (by decide +kernel)]; exact ⟨rfl, rfl⟩))
    (fun os started H enc _ => lifted os started H enc)
end lawS0967AExact

/-- THE STATEMENT. -/
theorem lawS0967AExact_proved : Rows.LawS0967AExactSaid := lawS0967AExact.over
end Go.Proofs.Ybulkszs
