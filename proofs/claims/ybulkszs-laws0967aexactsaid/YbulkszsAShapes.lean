import Derived.Test.YbulkszsShapes
import Derived.Test.YbulkszsAIndex
namespace Go.Proofs.Ybulkszs
open Go.ChangeShapes Go.WideShapes Go.ChangeAt Go.RowKit

theorem cells24 : Yba.prog.cellsOf 24 = 2 := by kernel_rfl
theorem add_add (a : Addr) (i j : Nat) : (a.add i).add j = a.add (i + j) := by
  by_cases hi : i = 0
  · subst hi; simp [Addr.add]
  · by_cases hj : j = 0
    · subst hj; simp [Addr.add]
    · simp [Addr.add, hi, hj, Nat.add_assoc]
theorem add_none (b off i : Nat) : (⟨b, off, none⟩ : Addr).add i = ⟨b, off + i, none⟩ := by simp [Addr.add]

/-- A slice of PLMNs that came in. -/
def Eh (w : World) (a : Option Addr) (len cap : Nat) (ms ns : Nat → ByteArray) : Prop :=
  len ≤ cap ∧ cap ≤ 9223372036854775807 ∧ ((a = none ∧ len = 0 ∧ cap = 0) ∨ (∃ ad, a = some ad ∧ len = 0) ∨ ∃ b off, a = some ⟨b, off, none⟩ ∧ 0 < len ∧ b < w.heap.size ∧ Row24 w b off len ms ns)

theorem Eh.pl {w : World} {a : Option Addr} {len cap : Nat} {ms ns : Nat → ByteArray} (h : Eh w a len cap ms ns) : Pl w a len cap ms ns := by
  obtain ⟨h1, h2, ⟨_, h0, _⟩ | ⟨_, _, h0⟩ | ⟨b, off, rfl, _, hb, hrow⟩⟩ := h
  · exact ⟨h1, h2, .inl h0⟩
  · exact ⟨h1, h2, .inl h0⟩
  · exact ⟨h1, h2, .inr ⟨b, off, rfl, hb, hrow⟩⟩

set_option maxRecDepth 100000 in
theorem plmn_reads {H : Type} {enc : TypeId × Value → H} {w : World} {base : Nat} {spare : Nat → Bool} {held : Bool} {fuel : Nat} {cs : List Value} {x : DataW H × List MemPlace}
    (h : DataW.trod enc Yba.prog w base spare held fuel 24 cs = some x) : ∃ m n : ByteArray, cs = [.string m, .string n] := by
  obtain ⟨_, _, _, _, hl, _, _⟩ := DataW.trod_struct Yba.underlying24 h
  rw [cells24] at hl
  obtain ⟨c0, c1, rfl⟩ : ∃ c0 c1, cs = [c0, c1] := by
    match cs, hl with
    | [c0, c1], _ => exact ⟨c0, c1, rfl⟩
  obtain ⟨n0, y0, e0⟩ := field_reads Yba.underlying24 h 0 _ rfl
  obtain ⟨n1, y1, e1⟩ := field_reads Yba.underlying24 h 1 _ rfl
  obtain ⟨s0, g0, _, _⟩ := DataW.trod_string Yba.underlying9 e0
  obtain ⟨s1, g1, _, _⟩ := DataW.trod_string Yba.underlying9 e1
  simp [cells9] at g0 g1
  subst g0 g1
  exact ⟨s0, s1, rfl⟩

theorem eh_open {H : Type} {enc : TypeId × Value → H} {w : World} {base : Nat} {spare : Nat → Bool} {held : Bool} {a : Option Addr} {len cap : Nat} {d : DataW H} {p : List MemPlace}
    (h : DataW.Trod enc Yba.prog w base spare held 22 (.slice a len cap) d p) : ∃ ms ns, Eh w a len cap ms ns := by
  obtain ⟨fuel, hf⟩ := h
  rcases DataW.trod_slice Yba.underlying22 hf with ⟨hcs, _⟩ | ⟨ad, l, c, elems, rest, n, _, hcs, _, _, hl, hm, hel, hread, _, _⟩
  · simp [Value.cells] at hcs
    obtain ⟨rfl, rfl, rfl⟩ := hcs
    exact ⟨fun _ => ByteArray.empty, fun _ => ByteArray.empty, Nat.le_refl _, by omega, .inl ⟨rfl, rfl, rfl⟩⟩
  · simp [Value.cells] at hcs
    obtain ⟨rfl, rfl, rfl⟩ := hcs
    unfold maxLen at hm
    by_cases h0 : len = 0
    · exact ⟨fun _ => ByteArray.empty, fun _ => ByteArray.empty, hl, hm, .inr (.inl ⟨ad, rfl, h0⟩)⟩
    · have key : ∀ i, i < len → ∃ m n : ByteArray, w.cell? (ad.add (i * 2)) = some (.string m) ∧ w.cell? (ad.add (i * 2 + 1)) = some (.string n) := by
        intro i hi
        have hr := hread i hi
        rw [List.getElem?_eq_getElem (by omega), Option.bind_eq_some_iff] at hr
        obtain ⟨cs, hc, ht⟩ := hr
        obtain ⟨m, n, rfl⟩ := plmn_reads ht
        rw [cells24] at hc
        obtain ⟨_, _, hcell⟩ := World.cells?_some hc
        refine ⟨m, n, ?_, ?_⟩
        · have := hcell 0 (by omega)
          simpa [add_add] using this
        · have := hcell 1 (by omega)
          simpa [add_add] using this
      obtain ⟨b, off, spot⟩ := ad
      obtain ⟨m0, n0, g0, _⟩ := key 0 (by omega)
      have hspot : spot = none := by simpa [Addr.add] using World.cell?_spot g0
      subst hspot
      have hb : b < w.heap.size := by simpa [add_none] using World.block_lt_of_cell? w _ g0
      have key' : ∀ i, ∃ mn : ByteArray × ByteArray, i < len → w.cell? ⟨b, off + i * 2, none⟩ = some (.string mn.1) ∧ w.cell? ⟨b, off + i * 2 + 1, none⟩ = some (.string mn.2) := by
        intro i
        by_cases hi : i < len
        · obtain ⟨m, n, g1, g2⟩ := key i hi
          exact ⟨(m, n), fun _ => ⟨by simpa [add_none] using g1, by simpa [add_none, Nat.add_assoc] using g2⟩⟩
        · exact ⟨(ByteArray.empty, ByteArray.empty), fun h => absurd h hi⟩
      refine ⟨fun i => (Classical.choose (key' i)).1, fun i => (Classical.choose (key' i)).2, hl, hm, .inr (.inr ⟨b, off, rfl, by omega, hb, fun i hi => Classical.choose_spec (key' i) hi⟩)⟩

/-- The cells of the first n PLMNs. -/
def flat (ms ns : Nat → ByteArray) : Nat → List Value
  | 0 => []
  | n + 1 => flat ms ns n ++ [.string (ms n), .string (ns n)]
theorem flat_length (ms ns : Nat → ByteArray) (n : Nat) : (flat ms ns n).length = n * 2 := by
  induction n with
  | zero => rfl
  | succ n ih => simp [flat, ih]; omega
theorem flat_get (ms ns : Nat → ByteArray) (n i : Nat) (h : i < n) : (flat ms ns n)[i * 2]? = some (.string (ms i)) ∧ (flat ms ns n)[i * 2 + 1]? = some (.string (ns i)) := by
  induction n with
  | zero => omega
  | succ n ih =>
    have hl := flat_length ms ns n
    by_cases e : i = n
    · subst e
      simp only [flat]
      rw [List.getElem?_append_right (by omega), List.getElem?_append_right (by omega), hl]
      simp [show i * 2 + 1 - i * 2 = 1 by omega]
    · obtain ⟨h1, h2⟩ := ih (by omega)
      simp only [flat]
      rw [List.getElem?_append_left (by omega), List.getElem?_append_left (by omega)]
      exact ⟨h1, h2⟩
theorem flat_mem (ms ns : Nat → ByteArray) (n : Nat) : ∀ u ∈ flat ms ns n, u.oneCell' = true := by
  induction n with
  | zero => simp [flat]
  | succ n ih =>
    intro u hu
    simp [flat] at hu
    rcases hu with h | rfl | rfl
    · exact ih u h
    · rfl
    · rfl
/-- What a row of PLMNs holds, as a list of cells. -/
theorem flat_cells {w : World} {b off len : Nat} {ms ns : Nat → ByteArray} (h : Row24 w b off len ms ns) : ∀ j u, (flat ms ns len)[j]? = some u → w.cell? ((⟨b, off, none⟩ : Addr).add j) = some u := by
  intro j u hu
  have hj : j < len * 2 := by
    have := (List.getElem?_eq_some_iff.1 hu).1
    rwa [flat_length] at this
  rw [add_none]
  obtain ⟨g1, g2⟩ := flat_get ms ns len (j / 2) (by omega)
  obtain ⟨c1, c2⟩ := h (j / 2) (by omega)
  rcases Nat.mod_two_eq_zero_or_one j with e | e
  · have ej : j / 2 * 2 = j := by omega
    rw [ej] at g1 c1
    rw [g1] at hu
    rw [c1, hu]
  · have ej : j / 2 * 2 + 1 = j := by omega
    rw [ej] at g2
    rw [show off + j / 2 * 2 + 1 = off + j by omega] at c2
    rw [g2] at hu
    rw [c2, hu]
end Go.Proofs.Ybulkszs
