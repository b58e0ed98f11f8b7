import Derived.Test.YbulkszsRows
import Derived.WalkKit
import Derived.ProofKit
import Derived.OpenShut
import Derived.ShutString
import Derived.ChangeOld
import Derived.Below
namespace Go.Proofs.Ybulkszs
open Go.ChangeShapes Go.WideShapes Go.ChangeAt Go.RowKit
open Go.ChangeMaps (open_string shut_string)

theorem own : ownKnob Yba.prog.godebug = none := by kernel_rfl
theorem laidOut : laidOutB Yba.prog = true := by kernel_rfl
theorem cells36 : Yba.prog.cellsOf 36 = 7 := by kernel_rfl
theorem cells34 : Yba.prog.cellsOf 34 = 11 := by kernel_rfl
theorem cells9 : Yba.prog.cellsOf 9 = 1 := by kernel_rfl
theorem cells5 : Yba.prog.cellsOf 5 = 1 := by kernel_rfl
theorem cells32 : Yba.prog.cellsOf 32 = 1 := by kernel_rfl
theorem cells4 : Yba.prog.cellsOf 4 = 1 := by kernel_rfl
theorem cells2 : Yba.prog.cellsOf 2 = 1 := by kernel_rfl

theorem array7 {α : Type} {cs : Array α} (h : cs.size = 7) : ∃ c0 c1 c2 c3 c4 c5 c6, cs = #[c0, c1, c2, c3, c4, c5, c6] := by
  obtain ⟨l⟩ := cs
  match l, h with
  | [c0, c1, c2, c3, c4, c5, c6], _ => exact ⟨c0, c1, c2, c3, c4, c5, c6, rfl⟩
theorem array11 {α : Type} {cs : Array α} (h : cs.size = 11) : ∃ c0 c1 c2 c3 c4 c5 c6 c7 c8 c9 c10, cs = #[c0, c1, c2, c3, c4, c5, c6, c7, c8, c9, c10] := by
  obtain ⟨l⟩ := cs
  match l, h with
  | [c0, c1, c2, c3, c4, c5, c6, c7, c8, c9, c10], _ => exact ⟨c0, c1, c2, c3, c4, c5, c6, c7, c8, c9, c10, rfl⟩

section
variable {H : Type} {enc : TypeId × Value → H} {P : Program} {w : World} {base : Nat} {spare : Nat → Bool} {held : Bool}

/-- The i-th field of a struct that reads: its cells read too. -/
theorem field_reads {t : TypeId} {fs : Array Field} {fuel : Nat} {cs : List Value} {x : DataW H × List MemPlace} (ht : P.underlying t = some (.struct fs)) (h : DataW.trod enc P w base spare held fuel t cs = some x) (i : Nat) (f : Field) (hf : fs[i]? = some f) :
    ∃ n y, DataW.trod enc P w base spare held n f.type ((cs.drop f.offset).take (P.cellsOf f.type)) = some y := by
  obtain ⟨xs, n, _, _, _, hlen, hk⟩ := DataW.trod_struct ht h
  have hlt : i < fs.size := (Array.getElem?_eq_some_iff.1 hf).1
  have := hk i f hf
  rw [List.getElem?_eq_getElem (by omega)] at this
  exact ⟨n, _, this⟩
end

set_option maxRecDepth 100000 in
/-- A value of type ZzS0967BReq. -/
theorem req_open {H : Type} {enc : TypeId × Value → H} {w : World} {base : Nat} {spare : Nat → Bool} {held : Bool} {r : Reach} {b0 : Nat} {v : Value} {d : DataW H} {p : List MemPlace}
    (hv : Value.okWide Yba.prog w r b0 36 v) (h : DataW.Trod enc Yba.prog w base spare held 36 v d p) :
    ∃ (mcc mnc dnn : ByteArray) (sst sd : Int) (hasSD hasS : Bool), v = .agg #[.string mcc, .string mnc, .string dnn, .int .u8 sst, .int .u32 sd, .bool hasSD, .bool hasS] := by
  obtain ⟨cs, rfl, hsz⟩ := okWide_struct Yba.underlying36 hv
  obtain ⟨c0, c1, c2, c3, c4, c5, c6, rfl⟩ := array7 (hsz.trans cells36)
  obtain ⟨fuel, hf⟩ := h
  obtain ⟨n0, y0, e0⟩ := field_reads Yba.underlying36 hf 0 _ rfl
  obtain ⟨n1, y1, e1⟩ := field_reads Yba.underlying36 hf 1 _ rfl
  obtain ⟨n2, y2, e2⟩ := field_reads Yba.underlying36 hf 2 _ rfl
  obtain ⟨n3, y3, e3⟩ := field_reads Yba.underlying36 hf 3 _ rfl
  obtain ⟨n4, y4, e4⟩ := field_reads Yba.underlying36 hf 4 _ rfl
  obtain ⟨n5, y5, e5⟩ := field_reads Yba.underlying36 hf 5 _ rfl
  obtain ⟨n6, y6, e6⟩ := field_reads Yba.underlying36 hf 6 _ rfl
  obtain ⟨s0, g0, _, _⟩ := DataW.trod_string Yba.underlying9 e0
  obtain ⟨s1, g1, _, _⟩ := DataW.trod_string Yba.underlying9 e1
  obtain ⟨s2, g2, _, _⟩ := DataW.trod_string Yba.underlying9 e2
  obtain ⟨s3, g3, _, _⟩ := DataW.trod_int Yba.underlying5 e3
  obtain ⟨s4, g4, _, _⟩ := DataW.trod_int Yba.underlying32 e4
  obtain ⟨s5, g5, _⟩ := DataW.trod_bool Yba.underlying4 e5
  obtain ⟨s6, g6, _⟩ := DataW.trod_bool Yba.underlying4 e6
  simp [Value.cells, cells9, cells5, cells32, cells4] at g0 g1 g2 g3 g4 g5 g6
  subst g0 g1 g2 g3 g4 g5 g6
  exact ⟨s0, s1, s2, s3, s4, s5, s6, rfl⟩

set_option maxRecDepth 100000 in
/-- A value of type ZzS0967BKey. -/
theorem key_open {H : Type} {enc : TypeId × Value → H} {w : World} {base : Nat} {spare : Nat → Bool} {held : Bool} {r : Reach} {b0 : Nat} {v : Value} {d : DataW H} {p : List MemPlace}
    (hv : Value.okWide Yba.prog w r b0 34 v) (h : DataW.Trod enc Yba.prog w base spare held 34 v d p) :
    ∃ (tm : ByteArray) (anyP : Bool) (mcc mnc : ByteArray) (anyD : Bool) (dnn : ByteArray) (anyS : Bool) (sst sd : Int) (hasSD hasS : Bool), v = .agg #[.string tm, .bool anyP, .string mcc, .string mnc, .bool anyD, .string dnn, .bool anyS, .int .u8 sst, .int .u32 sd, .bool hasSD, .bool hasS] := by
  obtain ⟨cs, rfl, hsz⟩ := okWide_struct Yba.underlying34 hv
  obtain ⟨c0, c1, c2, c3, c4, c5, c6, c7, c8, c9, c10, rfl⟩ := array11 (hsz.trans cells34)
  obtain ⟨fuel, hf⟩ := h
  obtain ⟨n0, y0, e0⟩ := field_reads Yba.underlying34 hf 0 _ rfl
  obtain ⟨n1, y1, e1⟩ := field_reads Yba.underlying34 hf 1 _ rfl
  obtain ⟨n2, y2, e2⟩ := field_reads Yba.underlying34 hf 2 _ rfl
  obtain ⟨n3, y3, e3⟩ := field_reads Yba.underlying34 hf 3 _ rfl
  obtain ⟨n4, y4, e4⟩ := field_reads Yba.underlying34 hf 4 _ rfl
  obtain ⟨n5, y5, e5⟩ := field_reads Yba.underlying34 hf 5 _ rfl
  obtain ⟨n6, y6, e6⟩ := field_reads Yba.underlying34 hf 6 _ rfl
  obtain ⟨n7, y7, e7⟩ := field_reads Yba.underlying34 hf 7 _ rfl
  obtain ⟨n8, y8, e8⟩ := field_reads Yba.underlying34 hf 8 _ rfl
  obtain ⟨n9, y9, e9⟩ := field_reads Yba.underlying34 hf 9 _ rfl
  obtain ⟨n10, y10, e10⟩ := field_reads Yba.underlying34 hf 10 _ rfl
  obtain ⟨s0, g0, _, _⟩ := DataW.trod_string Yba.underlying9 e0
  obtain ⟨s1, g1, _⟩ := DataW.trod_bool Yba.underlying4 e1
  obtain ⟨s2, g2, _, _⟩ := DataW.trod_string Yba.underlying9 e2
  obtain ⟨s3, g3, _, _⟩ := DataW.trod_string Yba.underlying9 e3
  obtain ⟨s4, g4, _⟩ := DataW.trod_bool Yba.underlying4 e4
  obtain ⟨s5, g5, _, _⟩ := DataW.trod_string Yba.underlying9 e5
  obtain ⟨s6, g6, _⟩ := DataW.trod_bool Yba.underlying4 e6
  obtain ⟨s7, g7, _, _⟩ := DataW.trod_int Yba.underlying5 e7
  obtain ⟨s8, g8, _, _⟩ := DataW.trod_int Yba.underlying32 e8
  obtain ⟨s9, g9, _⟩ := DataW.trod_bool Yba.underlying4 e9
  obtain ⟨s10, g10, _⟩ := DataW.trod_bool Yba.underlying4 e10
  simp [Value.cells, cells9, cells5, cells32, cells4] at g0 g1 g2 g3 g4 g5 g6 g7 g8 g9 g10
  subst g0 g1 g2 g3 g4 g5 g6 g7 g8 g9 g10
  exact ⟨s0, s1, s2, s3, s4, s5, s6, s7, s8, s9, s10, rfl⟩
end Go.Proofs.Ybulkszs
