import Derived.Test.YbulkszsAShapes
import Derived.Test.YbulkszsATimer
namespace Go.Proofs.Ybulkszs
open Go.RowKit

/-- 'zzs0967apick' returns some PLMN: which one is of no weight for the law. -/
def Picks (hm hn : ByteArray) (a : Option Addr) (len cap : Nat) (pm pn : ByteArray) (sel k : Int) (w : World) : Prop :=
  Calls Yba.prog 9 #[.agg #[.string hm, .string hn], .slice a len cap, .string pm, .string pn, .int .u8 sel, .int .u8 k] w fun e w' =>
    ∃ x y : ByteArray, e = .returned (.agg #[.string x, .string y]) ∧ Below w.heap.size w w'

set_option maxHeartbeats 1000000 in
theorem pick_0 (hm hn : ByteArray) (a : Option Addr) (len cap : Nat) (pm pn : ByteArray) (sel k : Int) (w : World) (h0 : 0 ≤ sel) (h1 : sel ≤ 255) (hs : sel % 4 = 0) : Picks hm hn a len cap pm pn sel k w := by
  unfold Picks
  go_enter Yba.func9, Yba.ntmps9
  go_wp2
  exact bodyPost_ret (v := .agg #[.string (hm), .string (hn)]) (by simp [results, Yba.results9, go_sem]) rfl ⟨_, _, rfl, bel2 _ _ _⟩

set_option maxHeartbeats 1000000 in
theorem pick_2 (hm hn : ByteArray) (a : Option Addr) (len cap : Nat) (pm pn : ByteArray) (sel k : Int) (w : World) (h0 : 0 ≤ sel) (h1 : sel ≤ 255) (hs : sel % 4 = 2) : Picks hm hn a len cap pm pn sel k w := by
  unfold Picks
  go_enter Yba.func9, Yba.ntmps9
  go_wp2
  exact bodyPost_ret (v := .agg #[.string ({ data := #[] }), .string ({ data := #[] })]) (by simp [results, Yba.results9, go_sem]) rfl ⟨_, _, rfl, bel2 _ _ _⟩

set_option maxHeartbeats 1000000 in
theorem pick_3 (hm hn : ByteArray) (a : Option Addr) (len cap : Nat) (pm pn : ByteArray) (sel k : Int) (w : World) (h0 : 0 ≤ sel) (h1 : sel ≤ 255) (hs : sel % 4 = 3) : Picks hm hn a len cap pm pn sel k w := by
  unfold Picks
  go_enter Yba.func9, Yba.ntmps9
  go_wp2
  exact bodyPost_ret (v := .agg #[.string (pm), .string (pn)]) (by simp [results, Yba.results9, go_sem]) rfl ⟨_, _, rfl, bel2 _ _ _⟩

set_option maxHeartbeats 1000000 in
theorem pick_1none (hm hn : ByteArray) (a : Option Addr) (cap : Nat) (pm pn : ByteArray) (sel k : Int) (w : World) (h0 : 0 ≤ sel) (h1 : sel ≤ 255) (hs : sel % 4 = 1) : Picks hm hn a 0 cap pm pn sel k w := by
  unfold Picks
  go_enter Yba.func9, Yba.ntmps9
  go_wp2
  exact bodyPost_ret (v := .agg #[.string pm, .string pn]) (by simp [results, Yba.results9, go_sem]) rfl ⟨_, _, rfl, bel2 _ _ _⟩

set_option maxHeartbeats 1000000 in
theorem pick_1some (hm hn : ByteArray) (b off len cap : Nat) (pm pn : ByteArray) (sel k : Int) (ms ns : Nat → ByteArray) (w : World) (h0 : 0 ≤ sel) (h1 : sel ≤ 255) (hs : sel % 4 = 1) (k0 : 0 ≤ k) (k1 : k ≤ 255)
    (hlen : 0 < len) (hb : b < w.heap.size) (hrow : Row24 w b off len ms ns) : Picks hm hn (some ⟨b, off, none⟩) len cap pm pn sel k w := by
  unfold Picks
  have hl : (0 : Int) < (len : Int) := by omega
  have j0 : 0 ≤ k % (len : Int) := Int.emod_nonneg _ (by omega)
  have j1 : k % (len : Int) < (len : Int) := Int.emod_lt_of_pos _ hl
  obtain ⟨c1, c2⟩ := hrow (k % (len : Int)).toNat (by omega)
  go_enter Yba.func9, Yba.ntmps9
  go_wp2
  exact bodyPost_ret (v := .agg #[.string (ms (k % (len : Int)).toNat), .string (ns (k % (len : Int)).toNat)]) (by simp [results, Yba.results9, go_sem]) rfl ⟨_, _, rfl, bel2 _ _ _⟩

theorem pick_any (hm hn : ByteArray) (a : Option Addr) (len cap : Nat) (pm pn : ByteArray) (sel k : Int) (ms ns : Nat → ByteArray) (w : World) (h0 : 0 ≤ sel) (h1 : sel ≤ 255) (k0 : 0 ≤ k) (k1 : k ≤ 255) (h : Eh w a len cap ms ns) : Picks hm hn a len cap pm pn sel k w := by
  have hc : sel % 4 = 0 ∨ sel % 4 = 1 ∨ sel % 4 = 2 ∨ sel % 4 = 3 := by omega
  rcases hc with hc | hc | hc | hc
  · exact pick_0 hm hn a len cap pm pn sel k w h0 h1 hc
  · obtain ⟨_, _, ⟨rfl, rfl, _⟩ | ⟨ad, rfl, rfl⟩ | ⟨b, off, rfl, hpos, hb, hrow⟩⟩ := h
    · exact pick_1none hm hn _ cap pm pn sel k w h0 h1 hc
    · exact pick_1none hm hn _ cap pm pn sel k w h0 h1 hc
    · exact pick_1some hm hn b off len cap pm pn sel k ms ns w h0 h1 hc k0 k1 hpos hb hrow
  · exact pick_2 hm hn a len cap pm pn sel k w h0 h1 hc
  · exact pick_3 hm hn a len cap pm pn sel k w h0 h1 hc
end Go.Proofs.Ybulkszs
