import Derived.Test.YbulkszsAShapes
import Derived.Test.YbulkszsATimer
import Derived.Deep.AppendLies
namespace Go.Proofs.Ybulkszs
open Go.RowKit

theorem info24 : (Yba.prog.info? 24).map (fun i => (i.zero, i.size, i.bytes)) = some (some (.agg #[.string ⟨#[]⟩, .string ⟨#[]⟩]), 2, 32) := by kernel_rfl

theorem Eh.src {w : World} {a : Option Addr} {len cap : Nat} {ms ns : Nat → ByteArray} (h : Eh w a len cap ms ns) : ∀ ad, a = some ad → ∀ j u, (flat ms ns len)[j]? = some u → w.cell? (ad.add j) = some u := by
  obtain ⟨_, _, ⟨rfl, _⟩ | ⟨ad', rfl, rfl⟩ | ⟨b, off, rfl, _, _, hrow⟩⟩ := h
  · intro _ h; cases h
  · intro _ _ j u hu; simp [flat] at hu
  · intro ad had; obtain rfl := Option.some.inj had; exact flat_cells hrow
theorem Eh.none {w : World} {a : Option Addr} {len cap : Nat} {ms ns : Nat → ByteArray} (h : Eh w a len cap ms ns) : a = none → len = 0 ∧ cap = 0 := by
  obtain ⟨_, _, ⟨rfl, h1, h2⟩ | ⟨ad', rfl, rfl⟩ | ⟨b, off, rfl, _, _, hrow⟩⟩ := h
  · exact fun _ => ⟨h1, h2⟩
  · intro h; cases h
  · intro h; cases h

theorem hide {p : Prop} (h : p) : Hid p := h

theorem blk_new (w : World) (O : Obj) : (w.alloc O).heap[w.heap.size]? = some O := by
  show (w.heap.push O)[w.heap.size]? = _
  simp
theorem blk_lt {w : World} {b : Nat} {X : Obj} (h : w.heap[b]? = some X) : b < w.heap.size := (Array.getElem?_eq_some_iff.1 h).1
theorem blk_alloc {w : World} {b : Nat} {X : Obj} (h : w.heap[b]? = some X) (O : Obj) : (w.alloc O).heap[b]? = some X := (Below.heap_alloc w O b (blk_lt h)).trans h
theorem blk_below {W w' : World} {b : Nat} {X : Obj} (hb : Below W.heap.size W w') (h : W.heap[b]? = some X) : w'.heap[b]? = some X := (hb.block b (blk_lt h)).trans h
theorem blk_grown {w w' : World} {row : Option Nat} {b : Nat} {X : Obj} (hg : w.grownBy w' row) (h : w.heap[b]? = some X) (hne : some b ≠ row) : w'.heap[b]? = some X := (hg.block b (blk_lt h) hne).trans h
theorem blk_cell {w : World} {b : Nat} {cs : Array Value} {t : TypeId} {fr : Nat × Nat} (h : w.heap[b]? = some (.cells cs t fr)) (o : Nat) : w.cell? ⟨b, o, none⟩ = cs[o]? := by simp [World.cell?, h]
theorem cell_stays {w w' : World} (hb : Below w.heap.size w w') {p : Addr} {u : Value} (h : w.cell? p = some u) : w'.cell? p = some u := (hb.cell (World.block_lt_of_cell? w p h)).trans h

theorem flat_congr {ms ns ms' ns' : Nat → ByteArray} {n : Nat} (h : ∀ i, i < n → ms i = ms' i ∧ ns i = ns' i) : flat ms ns n = flat ms' ns' n := by
  induction n with
  | zero => rfl
  | succ n ih =>
    obtain ⟨h1, h2⟩ := h n (by omega)
    simp only [flat, ih (fun i hi => h i (by omega)), h1, h2]
theorem pl_of_owns {w : World} {base g n cap : Nat} {ms ns : Nat → ByteArray} (h : w.ownsRow base 24 2 (.slice (some ⟨g, 0, none⟩) n cap) n (flat ms ns n)) : Pl w (some ⟨g, 0, none⟩) n cap ms ns := by
  obtain ⟨_, ⟨h0, _⟩ | ⟨g', cap', cur, hv, _, hblk, hnc, hcm, hsz, htk⟩⟩ := h
  · cases h0
  · cases hv
    unfold maxLen at hcm
    refine ⟨hnc, hcm, .inr ⟨g, 0, rfl, blk_lt hblk, fun i hi => ?_⟩⟩
    obtain ⟨e1, e2⟩ := flat_get ms ns n i hi
    rw [← htk] at e1 e2
    rw [List.getElem?_take_of_lt (by omega)] at e1 e2
    rw [blk_cell hblk, blk_cell hblk]
    simp only [Nat.zero_add]
    exact ⟨by simpa using e1, by simpa using e2⟩
/-- One PLMN behind the others. -/
def snoc (ms : Nat → ByteArray) (len : Nat) (x : ByteArray) : Nat → ByteArray := fun i => if i = len then x else ms i
theorem flat_snoc (ms ns : Nat → ByteArray) (len : Nat) (x y : ByteArray) : flat ms ns len ++ [.string x, .string y] = flat (snoc ms len x) (snoc ns len y) (len + 1) := by
  have e := flat_congr (ms := ms) (ns := ns) (ms' := snoc ms len x) (ns' := snoc ns len y) (n := len) (fun i hi => by simp [snoc, show i ≠ len by omega])
  rw [e]
  simp [flat, snoc]
theorem plEq_self (x y : ByteArray) : plEq x y x y = true := by simp [plEq]
theorem hasB_snoc (ms ns : Nat → ByteArray) (len : Nat) (x y : ByteArray) : hasB (snoc ms len x) (snoc ns len y) x y (len + 1) = true :=
  hasB_true (k := len) (by omega) (by simp [snoc, plEq_self])

theorem smr_a {found : Bool} {t : Int} : smr found true t = 720000000000 := by simp [smr]
theorem smr_b {found noP : Bool} {t : Int} (h : t ≤ 0) : smr found noP t = 720000000000 := by unfold smr; rw [if_neg (by omega)]
theorem smr_c {t : Int} (h : 0 < t) : smr true false t = t := by unfold smr; rw [if_pos ⟨rfl, rfl, h⟩]

set_option maxHeartbeats 1000000 in
theorem home_many (hm hn pm pn : ByteArray) (a : Option Addr) (len cap : Nat) (t : Int) (w : World) (hlen : (1024 : Int) < (len : Int)) :
    Calls Yba.prog 4 #[.string hm, .string hn, .slice a len cap, .int .i64 t, .string pm, .string pn] w fun e w' => e = .returned (.bool true) ∧ Below w.heap.size w w' := by
  go_enter Yba.func4, Yba.ntmps4
  go_wp2
  go_ret
  exact ⟨rfl, Below.refl _ _⟩

set_option maxHeartbeats 1000000 in
theorem home_few (hm hn pm pn : ByteArray) (a : Option Addr) (len cap : Nat) (t : Int) (ms ns : Nat → ByteArray) (w : World) (h : Eh w a len cap ms ns) (hlen : (len : Int) ≤ 1024) :
    Calls Yba.prog 4 #[.string hm, .string hn, .slice a len cap, .int .i64 t, .string pm, .string pn] w fun e w' => e = .returned (.bool true) ∧ Below w.heap.size w w' := by
  have hsrc := hide h.src
  have hnone := hide h.none
  have hlen' : len ≤ 1024 := by omega
  have hgt : ¬ (1024 : Int) < (len : Int) := by omega
  obtain ⟨i0, hi, hz0, hz1, hz2⟩ := info_parts info24
  clear h
  go_enter Yba.func4, Yba.ntmps4
  go_wp2_with (at_make; refine wpList_make_own _ rfl _ _ 22 rfl (w.heap.size + 1) 24 i0 _ 2 Yba.underlying22 hi hz0 hz1 _ _ _ (len + 1) rfl rfl (by omega) ?b2 ?b3 ?b4 ?_)
  case b2 => omega
  case b3 => unfold maxLen; omega
  intro w1 hown1 hg1
  have hb1 : Below w.heap.size w w1 := (bel1 _ _).grown hg1 (by simp) (by intro k e; cases e)
  have B1 : w1.heap[w.heap.size]? = some (.cells #[.string pm, .string pn] 24) := blk_grown hg1 (blk_new w _) (by simp)
  have hsrc1 := hide (fun ad had j u hu => cell_stays hb1 (hsrc.out ad had j u hu))
  clear hg1 hsrc
  go_wp2_with (at_builtin; refine wpList_append_fits_any _ rfl _ _ 22 rfl (w.heap.size + 1) 24 i0 2 Yba.underlying22 hi hz1 (w.heap.size + 1) 0 (len + 1) [] rfl hown1 a len cap (flat ms ns len) rfl (flat_length _ _ _) hnone.out hsrc1.out (flat_mem _ _ _) (by omega) ?_)
  intro w2 hown2 hg2
  have hb2 : Below w.heap.size w w2 := hb1.grown hg2 (by have := blk_lt B1; omega) (by intro k e; cases e; omega)
  have B2 : w2.heap[w.heap.size]? = some (.cells #[.string pm, .string pn] 24) := blk_grown hg2 B1 (by simp)
  have K2 := blk_cell B2
  clear hg2 hb1 B1 hsrc1 hnone hown1
  go_wp2_with (at_builtin; refine wpList_append_fits_any _ rfl _ _ 22 rfl (w.heap.size + 1) 24 i0 2 Yba.underlying22 hi hz1 (w.heap.size + 1) len (len + 1) (flat ms ns len) rfl (hown2.alloc _) (some ⟨w2.heap.size, 0, none⟩) 1 1 [.string pm, .string pn] rfl rfl ?c0 ?c1 ?c2 (by omega) ?_)
  case c0 => intro h; cases h
  case c1 => intro ad had j u hu; obtain rfl := Option.some.inj had; exact World.news_of_block (blk_new w2 (.cells #[.string pm, .string pn] 24)) j u hu
  case c2 => simp [Value.oneCell']
  intro w3 hown3 hg3
  rw [flat_snoc] at hown3
  have hp3 := hide (pl_of_owns hown3)
  have hb3 : Below w.heap.size w w3 := (hb2.alloc (by have := blk_lt B2; omega) _).grown hg3 (by have := blk_lt B2; simp; omega) (by intro k e; cases e; omega)
  have B3 : w3.heap[w.heap.size]? = some (.cells #[.string pm, .string pn] 24) := blk_grown hg3 (blk_alloc B2 _) (by simp)
  have K3 := blk_cell B3
  have N3 := blk_lt B3
  have hq := run_eql24 pm pn { data := #[] } { data := #[] }
  clear hg3 hown3 hb2 B2 K2 hown2 hi hz0 hz1 hz2
  cases hP : plEq pm pn { data := #[] } { data := #[] }
  all_goals
    rw [hP] at hq
    by_cases ht : t ≤ 0
    all_goals
      go_wp2_with fail
      refine (timer_pl hm hn (some ⟨w.heap.size + 1, 0, none⟩) (len + 1) (len + 1) t (snoc ms len pm) (snoc ns len pn) pm pn _ (hp3.out.later (bel1 _ _))).mono ?_
      rintro e w4 ⟨rfl, hb4⟩
      rw [hasB_snoc, Bool.or_true]
      have K4 := blk_cell (blk_below hb4 (blk_alloc B3 _))
      clear K3
      rw [noPl, hP]
      first | rw [smr_a] | rw [smr_b ht] | rw [smr_c ht]
      go_wp2
      go_ret
      exact ⟨rfl, belT hb3 (belT (bel1 _ _) hb4)⟩

theorem home_any (hm hn : ByteArray) (a : Option Addr) (len cap : Nat) (t : Int) (pm pn : ByteArray) (ms ns : Nat → ByteArray) (w : World) (h : Eh w a len cap ms ns) :
    Calls Yba.prog 4 #[.string hm, .string hn, .slice a len cap, .int .i64 t, .string pm, .string pn] w fun e w' => e = .returned (.bool true) ∧ Below w.heap.size w w' := by
  by_cases hl : (1024 : Int) < (len : Int)
  · exact home_many hm hn pm pn a len cap t w hl
  · exact home_few hm hn pm pn a len cap t ms ns w h (by omega)

namespace lawS0967AHomeListed
open Go.ChangeShapes Go.WideShapes Go.ChangeAt Go.RowKit
open Go.ChangeMaps (open_string shut_string)

set_option maxRecDepth 100000 in
theorem lifted (os : Os) (started : os.Started) (H : Type) (enc : TypeId × Value → H) :
    ReturnsInHanded {} Yba.checked os 4 .any (Rows.lawS0967AHomeListedSpec.pre6 enc Yba.prog Yba.f4 Rows.lawS0967AHomeListedRow.domain false) (Rows.lawS0967AHomeListedSpec.post enc Yba.prog Yba.f4 false true false false) := by
  refine returnsInHanded_of_change (C := Yba.checked) own started (by kernel_rfl) Yba.func4
    (ChangeSpec.witness6 (enc := enc) (C := Yba.checked) false ⟨#[], #[.string ByteArray.empty, .string ByteArray.empty, .slice none 0 0, .int .i64 0, .string ByteArray.empty, .string ByteArray.empty], []⟩ 8 (by kernel_rfl) (by kernel_rfl) (by kernel_rfl) (by kernel_rfl)) ?_
  intro W base args ds gs before hval0 hW _ _
  have hval : ∀ (j : Nat) t v, Yba.f4.params[j]? = some t → args[j]? = some v → Value.okWide Yba.prog W .any base t v := hval0
  have hW' := hW
  obtain ⟨p, q, hA0, hV, rfl, hfz, hnd⟩ := hW
  have hA : DataW.TrodAll enc Yba.prog W 0 (fun _ => true) true Yba.f4.params.toList args.toList ds p := hA0
  rw [Yba.params4] at hA hval
  obtain ⟨v0, vs0, d0, ds0, p0, q0, hargs, rfl, rfl, h0, r0⟩ := trodAll_cons hA
  obtain ⟨v1, vs1, d1, ds1, p1, q1, rfl, rfl, rfl, h1, r1⟩ := trodAll_cons r0
  obtain ⟨v2, vs2, d2, ds2, p2, q2, rfl, rfl, rfl, h2, r2⟩ := trodAll_cons r1
  obtain ⟨v3, vs3, d3, ds3, p3, q3, rfl, rfl, rfl, h3, r3⟩ := trodAll_cons r2
  obtain ⟨v4, vs4, d4, ds4, p4, q4, rfl, rfl, rfl, h4, r4⟩ := trodAll_cons r3
  obtain ⟨v5, vs5, d5, ds5, p5, q5, rfl, rfl, rfl, h5, r5⟩ := trodAll_cons r4
  obtain ⟨rfl, rfl, rfl⟩ := trodAll_nil r5
  obtain rfl : args = #[v0, v1, v2, v3, v4, v5] := by cases args; simp_all
  obtain ⟨rfl, rfl⟩ := trodVars_none hV
  obtain ⟨a0, rfl, rfl, rfl, w0⟩ := open_string Yba.underlying9 (hval 0 9 v0 rfl rfl) h0
  obtain ⟨a1, rfl, rfl, rfl, w1⟩ := open_string Yba.underlying9 (hval 1 9 v1 rfl rfl) h1
  obtain ⟨sa2, sl2, sc2, rfl⟩ := okWide_slice Yba.underlying22 (hval 2 22 v2 rfl rfl)
  have lt2 : ∀ x ∈ p2, x.block < W.heap.size := by obtain ⟨m, hm⟩ := h2; exact DataW.trod_lt m _ _ _ hm
  obtain ⟨ms2, ns2, hs2⟩ := eh_open h2
  obtain ⟨a3, rfl, rfl, rfl, w3⟩ := open_int Yba.underlying2 (hval 3 2 v3 rfl rfl) h3
  obtain ⟨a4, rfl, rfl, rfl, w4⟩ := open_string Yba.underlying9 (hval 4 9 v4 rfl rfl) h4
  obtain ⟨a5, rfl, rfl, rfl, w5⟩ := open_string Yba.underlying9 (hval 5 9 v5 rfl rfl) h5
  clear hA0 hval0
  refine (home_any a0 a1 sa2 sl2 sc2 a3 a4 a5 ms2 ns2 W hs2).mono fun e W' ⟨he, bel⟩ => ?_
  subst he
  exact ⟨_, rfl, _, _, _, [], _, [], hW', trodAll_mk1 (shut_bool Yba.underlying4 _), (trodAll_cons_mk (shut_string Yba.underlying9 w0) (trodAll_cons_mk (shut_string Yba.underlying9 w1) (trodAll_cons_mk (Below.trod laidOut (by kernel_rfl) (of_decide_eq_true (by kernel_rfl)) h2 bel lt2) (trodAll_cons_mk (shut_int Yba.underlying2 w3) (trodAll_cons_mk (shut_string Yba.underlying9 w4) (trodAll_cons_mk (shut_string Yba.underlying9 w5) trodAll_mk0)))))), rfl, bel.frame _, fun h => by cases h⟩

theorem over : Rows.lawS0967AHomeListedRow.holds Yba.pinned (OpenSpec.ofChange Rows.lawS0967AHomeListedSpec) :=
  OpenClaim.holds_of_wide 4 Yba.f4 rfl rfl rfl rfl rfl rfl rfl ⟨rfl, rfl, rfl, rfl, rfl⟩ rfl rfl rfl rfl rfl (by kernel_rfl) Yba.func4 (by kernel_rfl)
    (of_decide_eq_true (by kernel_rfl)) (by unfold Func.isWrapper; first | (rw [if_pos (by decide +kernel)]; kernel_rfl) | (rw [if_neg (by decide +kernel)]; exact ⟨rfl, rfl⟩))
    (fun os started H enc _ => lifted os started H enc)
end lawS0967AHomeListed

/-- THE STATEMENT. -/
theorem lawS0967AHomeListed_proved : Rows.LawS0967AHomeListedSaid := lawS0967AHomeListed.over
end Go.Proofs.Ybulkszs
