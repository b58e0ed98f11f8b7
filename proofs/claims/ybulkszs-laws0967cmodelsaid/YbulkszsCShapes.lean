import Derived.Test.YbulkszsShapes
import Derived.Test.YbulkszsCLeaves
namespace Go.Proofs.Ybulkszs
open Go.ChangeShapes Go.WideShapes Go.ChangeAt Go.RowKit

theorem cells54 : Yba.prog.cellsOf 54 = 4 := by kernel_rfl
theorem add_add (a : Addr) (i j : Nat) : (a.add i).add j = a.add (i + j) := by
  by_cases hi : i = 0
  · subst hi; simp [Addr.add]
  · by_cases hj : j = 0
    · subst hj; simp [Addr.add]
    · simp [Addr.add, hi, hj, Nat.add_assoc]
theorem add_none (b off i : Nat) : (⟨b, off, none⟩ : Addr).add i = ⟨b, off + i, none⟩ := by simp [Addr.add]

/-- The entries of a slice that is not nil. -/
def Row54 (w : World) (b off len : Nat) (es : Nat → Ent) : Prop :=
  ∀ i, i < len → w.cell? ⟨b, off + i * 4, none⟩ = some (.int .u8 (es i).sel) ∧ w.cell? ⟨b, off + i * 4 + 1, none⟩ = some (.int .i64 (es i).unt) ∧ w.cell? ⟨b, off + i * 4 + 2, none⟩ = some (.bool (es i).deact) ∧ w.cell? ⟨b, off + i * 4 + 3, none⟩ = some (.int .i64 (es i).since) ∧ 0 ≤ (es i).sel ∧ (es i).sel ≤ 255

/-- A slice of entries that came in. -/
def Ce (w : World) (a : Option Addr) (len : Nat) (es : Nat → Ent) : Prop :=
  len = 0 ∨ ∃ b off, a = some ⟨b, off, none⟩ ∧ b < w.heap.size ∧ Row54 w b off len es

set_option maxRecDepth 100000 in
theorem ent_reads {H : Type} {enc : TypeId × Value → H} {w : World} {base : Nat} {spare : Nat → Bool} {held : Bool} {fuel : Nat} {cs : List Value} {x : DataW H × List MemPlace}
    (h : DataW.trod enc Yba.prog w base spare held fuel 54 cs = some x) : ∃ e : Ent, cs = [.int .u8 e.sel, .int .i64 e.unt, .bool e.deact, .int .i64 e.since] ∧ 0 ≤ e.sel ∧ e.sel ≤ 255 := by
  obtain ⟨_, _, _, _, hl, _, _⟩ := DataW.trod_struct Yba.underlying54 h
  rw [cells54] at hl
  obtain ⟨c0, c1, c2, c3, rfl⟩ : ∃ c0 c1 c2 c3, cs = [c0, c1, c2, c3] := by
    match cs, hl with
    | [c0, c1, c2, c3], _ => exact ⟨c0, c1, c2, c3, rfl⟩
  obtain ⟨n0, y0, e0⟩ := field_reads Yba.underlying54 h 0 _ rfl
  obtain ⟨n1, y1, e1⟩ := field_reads Yba.underlying54 h 1 _ rfl
  obtain ⟨n2, y2, e2⟩ := field_reads Yba.underlying54 h 2 _ rfl
  obtain ⟨n3, y3, e3⟩ := field_reads Yba.underlying54 h 3 _ rfl
  obtain ⟨s0, g0, _, w0⟩ := DataW.trod_int Yba.underlying5 e0
  obtain ⟨s1, g1, _, _⟩ := DataW.trod_int Yba.underlying2 e1
  obtain ⟨s2, g2, _⟩ := DataW.trod_bool Yba.underlying4 e2
  obtain ⟨s3, g3, _, _⟩ := DataW.trod_int Yba.underlying2 e3
  simp [cells5, cells2, cells4] at g0 g1 g2 g3
  subst g0 g1 g2 g3
  have hb := bounds_u8 w0
  exact ⟨⟨s0, s1, s2, s3⟩, rfl, by simp; omega, by simp; omega⟩

theorem ce_open {H : Type} {enc : TypeId × Value → H} {w : World} {base : Nat} {spare : Nat → Bool} {held : Bool} {a : Option Addr} {len cap : Nat} {d : DataW H} {p : List MemPlace}
    (h : DataW.Trod enc Yba.prog w base spare held 51 (.slice a len cap) d p) : ∃ es, Ce w a len es := by
  obtain ⟨fuel, hf⟩ := h
  rcases DataW.trod_slice Yba.underlying51 hf with ⟨hcs, _⟩ | ⟨ad, l, c, elems, rest, n, _, hcs, _, _, hl, hm, hel, hread, _, _⟩
  · simp [Value.cells] at hcs
    obtain ⟨rfl, rfl, rfl⟩ := hcs
    exact ⟨fun _ => ⟨0, 0, false, 0⟩, .inl rfl⟩
  · simp [Value.cells] at hcs
    obtain ⟨rfl, rfl, rfl⟩ := hcs
    by_cases h0 : len = 0
    · exact ⟨fun _ => ⟨0, 0, false, 0⟩, .inl h0⟩
    · have key : ∀ i, i < len → ∃ e : Ent, w.cell? (ad.add (i * 4)) = some (.int .u8 e.sel) ∧ w.cell? (ad.add (i * 4 + 1)) = some (.int .i64 e.unt) ∧ w.cell? (ad.add (i * 4 + 2)) = some (.bool e.deact) ∧ w.cell? (ad.add (i * 4 + 3)) = some (.int .i64 e.since) ∧ 0 ≤ e.sel ∧ e.sel ≤ 255 := by
        intro i hi
        have hr := hread i hi
        rw [List.getElem?_eq_getElem (by omega), Option.bind_eq_some_iff] at hr
        obtain ⟨cs, hc, ht⟩ := hr
        obtain ⟨e, rfl, hb0, hb1⟩ := ent_reads ht
        rw [cells54] at hc
        obtain ⟨_, _, hcell⟩ := World.cells?_some hc
        have q0 := hcell 0 (by omega)
        have q1 := hcell 1 (by omega)
        have q2 := hcell 2 (by omega)
        have q3 := hcell 3 (by omega)
        rw [add_add] at q0 q1 q2 q3
        exact ⟨e, q0, q1, q2, q3, hb0, hb1⟩
      obtain ⟨b, off, spot⟩ := ad
      obtain ⟨e0, g0, _⟩ := key 0 (by omega)
      have hspot : spot = none := by simpa [Addr.add] using World.cell?_spot g0
      subst hspot
      have hb : b < w.heap.size := by simpa [add_none] using World.block_lt_of_cell? w _ g0
      have key' : ∀ i, ∃ e : Ent, i < len → w.cell? ⟨b, off + i * 4, none⟩ = some (.int .u8 e.sel) ∧ w.cell? ⟨b, off + i * 4 + 1, none⟩ = some (.int .i64 e.unt) ∧ w.cell? ⟨b, off + i * 4 + 2, none⟩ = some (.bool e.deact) ∧ w.cell? ⟨b, off + i * 4 + 3, none⟩ = some (.int .i64 e.since) ∧ 0 ≤ e.sel ∧ e.sel ≤ 255 := by
        intro i
        by_cases hi : i < len
        · obtain ⟨e, q0, q1, q2, q3, hb0, hb1⟩ := key i hi
          rw [add_none] at q0 q1 q2 q3
          exact ⟨e, fun _ => ⟨q0, q1, q2, q3, hb0, hb1⟩⟩
        · exact ⟨⟨0, 0, false, 0⟩, fun h => absurd h hi⟩
      exact ⟨fun i => Classical.choose (key' i), .inr ⟨b, off, rfl, hb, fun i hi => Classical.choose_spec (key' i) hi⟩⟩
end Go.Proofs.Ybulkszs
