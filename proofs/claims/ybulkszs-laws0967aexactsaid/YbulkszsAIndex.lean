import Derived.Test.YbulkszsRows
import Derived.WalkKit
import Derived.ProofKit
import Derived.WalkSpells
import Derived.Below
import Derived.Deep.QuietTactic
import Derived.BigQuiet
import Derived.Outline
namespace Go.Proofs.Ybulkszs
open Go.RowKit

/-- '==' of two PLMNs. -/
def plEq (a b a' b' : ByteArray) : Bool := decide (a.toList = a'.toList) && decide (b.toList = b'.toList)
theorem run_eql24 (a b a' b' : ByteArray) (w : World) : (binOp .eql 24 (.agg #[.string a, .string b]) (.agg #[.string a', .string b'])).run Yba.prog w = .ok (.bool (plEq a b a' b')) w := by
  go_simp
  unfold plEq
  split <;> simp [*]
  split <;> simp [*]
theorem run_neq24 (a b a' b' : ByteArray) (w : World) : (binOp .neq 24 (.agg #[.string a, .string b]) (.agg #[.string a', .string b'])).run Yba.prog w = .ok (.bool (!plEq a b a' b')) w := by
  go_simp
  unfold plEq
  split <;> simp [*]
  split <;> simp [*]

/-- Is (x, y) among the first n of the PLMNs (ms i, ns i)? -/
def hasB (ms ns : Nat → ByteArray) (x y : ByteArray) : Nat → Bool
  | 0 => false
  | n + 1 => hasB ms ns x y n || plEq x y (ms n) (ns n)
theorem hasB_true {ms ns : Nat → ByteArray} {x y : ByteArray} {n k : Nat} (hk : k < n) (h : plEq x y (ms k) (ns k) = true) : hasB ms ns x y n = true := by
  induction n with
  | zero => omega
  | succ n ih =>
    by_cases e : k = n
    · subst e; simp [hasB, h]
    · simp [hasB, ih (by omega)]

/-- The PLMNs of a slice that is not nil. -/
def Row24 (w : World) (b off len : Nat) (ms ns : Nat → ByteArray) : Prop :=
  ∀ i, i < len → w.cell? ⟨b, off + i * 2, none⟩ = some (.string (ms i)) ∧ w.cell? ⟨b, off + i * 2 + 1, none⟩ = some (.string (ns i))

theorem belT {w w1 w2 : World} (h : Below w.heap.size w w1) (k : Below w1.heap.size w1 w2) : Below w.heap.size w w2 := h.trans (k.mono h.size)
theorem belD {w w1 : World} (h : Below w.heap.size w w1) (n : Nat) : Below w.heap.size w (w1.drewN n) := h.trans ⟨rfl, rfl, rfl, Nat.le_refl _, fun _ _ => rfl⟩
theorem bel1 (w : World) (o1 : Obj) : Below w.heap.size w (w.alloc o1) := (Below.refl _ _).alloc (Nat.le_refl _) o1
theorem bel2 (w : World) (o1 o2 : Obj) : Below w.heap.size w ((w.alloc o1).alloc o2) := (bel1 w o1).alloc (by simp) o2

set_option maxHeartbeats 1000000 in
theorem index_any (b off len cap : Nat) (ms ns : Nat → ByteArray) (x y : ByteArray) (w : World) (hrow : Row24 w b off len ms ns) (hb : b < w.heap.size) (hlen : len ≤ cap) (hcap : cap ≤ 9223372036854775807) :
    Calls Yba.prog 20 #[.slice (some ⟨b, off, none⟩) len cap, .agg #[.string x, .string y]] w fun e w' =>
      ∃ r : Int, e = .returned (.int .i64 r) ∧ decide (0 ≤ r) = hasB ms ns x y len ∧ Below w.heap.size w w' := by
  go_enter Yba.func20, Yba.ntmps20
  go_wp2
  go_loopw [8] (fun s8 w' => ∃ k n : Nat, k ≤ len ∧ s8 = .int .i64 k ∧ hasB ms ns x y k = false ∧ w' = (w.alloc (.cells #[.string x, .string y] 24)).drewN n) (fun s8 _ => len - (intOf s8).toNat)
  case atStart => exact ⟨0, 0, Nat.zero_le _, rfl, rfl, rfl⟩
  case round =>
    obtain ⟨k, n, hk, rfl, hno, rfl⟩ := hrel
    by_cases hlt : k < len
    · obtain ⟨hm, hn⟩ := hrow k hlt
      have hkl : (k : Int) < (len : Int) := by omega
      have heq := run_eql24 x y (ms k) (ns k)
      cases he : plEq x y (ms k) (ns k)
      · rw [he] at heq
        go_wp2
        go_quiet (fail)
        go_wp2
        exact ⟨⟨k + 1, n + nq, by omega, by go_num, by simp [hasB, hno, he], rfl⟩, by simp [intOf]; omega⟩
      · rw [he] at heq
        go_wp2
        go_quiet (fail)
        go_wp2
        go_ret
        exact ⟨(k : Int), rfl, by rw [hasB_true hlt he]; simp, belD (belD (bel1 _ _) _) _⟩
    · have ek : k = len := by omega
      go_wp2
      go_ret
      exact ⟨-1, rfl, by rw [← ek, hno]; simp, belD (bel1 _ _) _⟩

set_option maxHeartbeats 1000000 in
/-- A slice without elements (nil, or not). -/
theorem index_none (a : Option Addr) (cap : Nat) (x y : ByteArray) (w : World) :
    Calls Yba.prog 20 #[.slice a 0 cap, .agg #[.string x, .string y]] w fun e w' => e = .returned (.int .i64 (-1)) ∧ Below w.heap.size w w' := by
  go_enter Yba.func20, Yba.ntmps20
  go_wp2
  go_loopw [8] (fun s8 w' => s8 = .int .i64 0 ∧ w' = w.alloc (.cells #[.string x, .string y] 24)) (fun _ _ => 0)
  case atStart => exact ⟨rfl, rfl⟩
  case round =>
    obtain ⟨rfl, rfl⟩ := hrel
    go_wp2
    go_ret
    exact ⟨rfl, bel1 _ _⟩

/-- What a slice of PLMNs holds: nothing, or the PLMNs (ms i, ns i). -/
def Pl (w : World) (a : Option Addr) (len cap : Nat) (ms ns : Nat → ByteArray) : Prop :=
  len ≤ cap ∧ cap ≤ 9223372036854775807 ∧ (len = 0 ∨ ∃ b off, a = some ⟨b, off, none⟩ ∧ b < w.heap.size ∧ Row24 w b off len ms ns)

theorem Pl.later {w w' : World} {a : Option Addr} {len cap : Nat} {ms ns : Nat → ByteArray} (h : Pl w a len cap ms ns) (hb : Below w.heap.size w w') : Pl w' a len cap ms ns := by
  obtain ⟨h1, h2, h3 | ⟨b, off, rfl, hlt, hrow⟩⟩ := h
  · exact ⟨h1, h2, .inl h3⟩
  · exact ⟨h1, h2, .inr ⟨b, off, rfl, Nat.lt_of_lt_of_le hlt hb.size, fun i hi => ⟨(hb.cell (p := ⟨b, off + i * 2, none⟩) hlt).trans (hrow i hi).1, (hb.cell (p := ⟨b, off + i * 2 + 1, none⟩) hlt).trans (hrow i hi).2⟩⟩⟩

theorem index_pl (a : Option Addr) (len cap : Nat) (ms ns : Nat → ByteArray) (x y : ByteArray) (w : World) (h : Pl w a len cap ms ns) :
    Calls Yba.prog 20 #[.slice a len cap, .agg #[.string x, .string y]] w fun e w' =>
      ∃ r : Int, e = .returned (.int .i64 r) ∧ decide (0 ≤ r) = hasB ms ns x y len ∧ Below w.heap.size w w' := by
  obtain ⟨h1, h2, rfl | ⟨b, off, rfl, hlt, hrow⟩⟩ := h
  · refine (index_none a cap x y w).mono ?_
    rintro e w' ⟨rfl, hb⟩
    exact ⟨-1, rfl, by simp [hasB], hb⟩
  · exact index_any b off len cap ms ns x y w hrow hlt h1 h2

set_option maxHeartbeats 1000000 in
theorem contains_pl (a : Option Addr) (len cap : Nat) (ms ns : Nat → ByteArray) (x y : ByteArray) (w : World) (h : Pl w a len cap ms ns) :
    Calls Yba.prog 17 #[.slice a len cap, .agg #[.string x, .string y]] w fun e w' => e = .returned (.bool (hasB ms ns x y len)) ∧ Below w.heap.size w w' := by
  go_enter Yba.func17, Yba.ntmps17
  go_wp2_with fail
  refine (index_pl a len cap ms ns x y _ (h.later (bel1 _ _))).mono ?_
  rintro e w1 ⟨r, rfl, hr, hb⟩
  have HR : Hid (decide (0 ≤ r) = hasB ms ns x y len) := hr
  clear hr
  go_wp2
  go_ret
  exact ⟨by rw [← HR.out]; rfl, belT (bel1 _ _) hb⟩
end Go.Proofs.Ybulkszs
