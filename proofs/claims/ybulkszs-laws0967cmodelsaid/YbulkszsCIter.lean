import Derived.Test.YbulkszsCLeaves
import Derived.RangeFuncNested
import Derived.RangeFuncBound
import Derived.RangeFuncCalls
import Derived.RangeFuncLeaves
import Derived.RangeFuncBox
import Derived.Shelf.Abstract
import Derived.Shelf.RegionOpen
import Derived.OwnWalkIn
import Derived.TacticsInMore
import Derived.LoopNIn
import Derived.LoopIn
import Derived.Maps.AppendAt
namespace Go.Proofs.Ybulkszs
open Go.RowKit Go.Shelf
attribute [local go_sem] Oper.semAt_some

/-- The cells of one hold in the list. -/
def heldA (e : Ent) : Array Value := #[.string (tmr e.sel), .bool false, .string ⟨#[]⟩, .string ⟨#[]⟩, .bool false, .string ⟨#[]⟩, .bool false, .int .u8 0, .int .u32 0, .bool false, .bool false, .int .i64 e.unt, .bool e.deact, .int .i64 e.since]

/-- The hold list lies at block S from cell 5 on; its entries in block G. -/
structure HL (W : World) (S G len : Nat) (dropping : Bool) (started : Int) (es : Nat → Ent) : Prop where
  held : W.cell? ⟨S, 5, none⟩ = some (.slice (some ⟨G, 0, none⟩) len len)
  drop : W.cell? ⟨S, 6, none⟩ = some (.bool dropping)
  start : W.cell? ⟨S, 7, none⟩ = some (.int .i64 started)
  ent : ∀ i, i < len → ∀ j, j < 14 → W.cell? ⟨G, i * 14 + j, none⟩ = (heldA (es i))[j]?

theorem HL.below {n₀ : Nat} {A B : World} {S G len : Nat} {dropping : Bool} {started : Int} {es : Nat → Ent} (h : HL A S G len dropping started es) (hb : Below n₀ A B) (hS : S < n₀) (hG : G < n₀) : HL B S G len dropping started es :=
  ⟨(hb.cell (p := ⟨S, 5, none⟩) hS).trans h.held, (hb.cell (p := ⟨S, 6, none⟩) hS).trans h.drop, (hb.cell (p := ⟨S, 7, none⟩) hS).trans h.start, fun i hi j hj => (hb.cell (p := ⟨G, i * 14 + j, none⟩) hG).trans (h.ent i hi j hj)⟩

/-- Is the entry kept? -/
def kpE (dropping : Bool) (started : Int) (e : Ent) : Bool := kp (noT e.sel) e.deact dropping e.unt started
/-- The entries that are kept among the first k. -/
def keptL (dropping : Bool) (started : Int) (es : Nat → Ent) : Nat → List Ent
  | 0 => []
  | k + 1 => if kpE dropping started (es k) = true then keptL dropping started es k ++ [es k] else keptL dropping started es k
theorem keptL_le (dropping : Bool) (started : Int) (es : Nat → Ent) (k : Nat) : (keptL dropping started es k).length ≤ k := by
  induction k with
  | zero => simp [keptL]
  | succ k ih =>
    unfold keptL
    split
    · simp; omega
    · omega

/-- What a round keeps: all below n₀, and block Bl. -/
def KpB (n₀ Bl : Nat) (W W' : World) : Prop := Below n₀ W W' ∧ W'.heap[Bl]? = W.heap[Bl]?

theorem yield_out {e : Ending} {A B C : Prop} (h : (e = .returned (.bool true) ∧ A ∧ B) ∨ (e = .returned (.bool false) ∧ C)) : ∃ bb : Bool, e = .returned (.bool bb) ∧ (bb = true → A ∧ B) ∧ (bb = false → C) := by
  rcases h with ⟨he, h5⟩ | ⟨he, h5⟩
  · exact ⟨true, he, fun _ => h5, fun h => (Bool.noConfusion h)⟩
  · exact ⟨false, he, fun h => (Bool.noConfusion h), fun _ => h5⟩
theorem kept_is (r : Bool) (S so G o : Nat) (tm : ByteArray) (deact dropping : Bool) (unt started : Int) (w : World) (noTm : Bool) (hr : kp noTm deact dropping unt started = r) (hT : tm.toList.isEmpty = noTm)
    (s1 : w.cell? ⟨S, so + 1, none⟩ = some (.bool dropping)) (s2 : w.cell? ⟨S, so + 2, none⟩ = some (.int .i64 started))
    (g0 : w.cell? ⟨G, o, none⟩ = some (.string tm)) (g11 : w.cell? ⟨G, o + 11, none⟩ = some (.int .i64 unt)) (g12 : w.cell? ⟨G, o + 12, none⟩ = some (.bool deact)) :
    Calls Yba.prog 22 #[.pointer (some ⟨S, so, none⟩), .pointer (some ⟨G, o, none⟩)] w fun e w' => e = .returned (.bool r) ∧ ∃ q, w' = w.drewN q := by
  subst hr
  exact kept_any S so G o tm deact dropping unt started w noTm hT s1 s2 g0 g11 g12

theorem keptL_no {dropping : Bool} {started : Int} {es : Nat → Ent} {k : Nat} (h : kpE dropping started (es k) = false) : keptL dropping started es (k + 1) = keptL dropping started es k := by simp [keptL, h]
theorem keptL_yes {dropping : Bool} {started : Int} {es : Nat → Ent} {k : Nat} (h : kpE dropping started (es k) = true) : keptL dropping started es (k + 1) = keptL dropping started es k ++ [es k] := by simp [keptL, h]
theorem KpB.trans {n₀ Bl : Nat} {A B C : World} (h : KpB n₀ Bl A B) (k : KpB n₀ Bl B C) : KpB n₀ Bl A C := ⟨h.1.trans k.1, k.2.trans h.2⟩
theorem kpB_grown {n₀ Bl : Nat} {A B : World} (hg : A.grownBy B none) (hn : n₀ ≤ A.heap.size) (hb : Bl < A.heap.size) : KpB n₀ Bl A B :=
  ⟨⟨hg.os, hg.tape, hg.output, hg.size, fun k hk => hg.block k (by omega) (by simp)⟩, hg.block Bl hb (by simp)⟩
theorem grown_dN (w : World) (q : Nat) : w.grownBy (w.drewN q) none := ⟨rfl, rfl, rfl, Nat.le_refl _, fun _ _ _ => rfl⟩
theorem grown_dr (w : World) (q : Nat) : w.grownBy (w.drew.drewN q) none := ⟨rfl, rfl, rfl, Nat.le_refl _, fun _ _ _ => rfl⟩

/-- The cells of entry k. -/
theorem HL.cells {W : World} {S G len : Nat} {dropping : Bool} {started : Int} {es : Nat → Ent} (h : HL W S G len dropping started es) {k : Nat} (hk : k < len) :
    W.cell? ⟨G, k * 14, none⟩ = some (.string (tmr (es k).sel)) ∧ W.cell? ⟨G, k * 14 + 1, none⟩ = some (.bool false) ∧ W.cell? ⟨G, k * 14 + 2, none⟩ = some (.string ⟨#[]⟩) ∧ W.cell? ⟨G, k * 14 + 3, none⟩ = some (.string ⟨#[]⟩) ∧
    W.cell? ⟨G, k * 14 + 4, none⟩ = some (.bool false) ∧ W.cell? ⟨G, k * 14 + 5, none⟩ = some (.string ⟨#[]⟩) ∧ W.cell? ⟨G, k * 14 + 6, none⟩ = some (.bool false) ∧ W.cell? ⟨G, k * 14 + 7, none⟩ = some (.int .u8 0) ∧ W.cell? ⟨G, k * 14 + 8, none⟩ = some (.int .u32 0) ∧
    W.cell? ⟨G, k * 14 + 9, none⟩ = some (.bool false) ∧ W.cell? ⟨G, k * 14 + 10, none⟩ = some (.bool false) ∧ W.cell? ⟨G, k * 14 + 11, none⟩ = some (.int .i64 (es k).unt) ∧ W.cell? ⟨G, k * 14 + 12, none⟩ = some (.bool (es k).deact) ∧ W.cell? ⟨G, k * 14 + 13, none⟩ = some (.int .i64 (es k).since) :=
  ⟨h.ent k hk 0 (by omega), h.ent k hk 1 (by omega), h.ent k hk 2 (by omega), h.ent k hk 3 (by omega), h.ent k hk 4 (by omega), h.ent k hk 5 (by omega), h.ent k hk 6 (by omega), h.ent k hk 7 (by omega), h.ent k hk 8 (by omega), h.ent k hk 9 (by omega), h.ent k hk 10 (by omega), h.ent k hk 11 (by omega), h.ent k hk 12 (by omega), h.ent k hk 13 (by omega)⟩

theorem HL.drawn {A B : World} {S G len : Nat} {dropping : Bool} {started : Int} {es : Nat → Ent} (h : HL A S G len dropping started es) (hg : A.grownBy B none) : HL B S G len dropping started es := by
  have key : ∀ b o v, A.cell? ⟨b, o, none⟩ = some v → B.cell? ⟨b, o, none⟩ = some v := fun b o v hv => hg.cell hv (by simp)
  exact ⟨key _ _ _ h.held, key _ _ _ h.drop, key _ _ _ h.start, fun i hi j hj => by
    have e := h.ent i hi j hj
    have hs : j < (heldA (es i)).size := by simpa [heldA] using hj
    rw [Array.getElem?_eq_getElem hs] at e ⊢
    exact key _ _ _ e⟩

set_option maxRecDepth 100000 in
set_option maxHeartbeats 4000000 in
theorem all1_in (n : Nat) (hn : 1 ≤ n) (l Bl n₀ S G len : Nat) (dropping : Bool) (started : Int) (es : Nat → Ent) (hlen : len ≤ 1024) (hS : S < n₀) (hG : G < n₀) (J Jx : List Ent → World → Prop)
    (hJd : ∀ pre A B, J pre A → A.grownBy B none → J pre B)
    (hY : ∀ pre x W, J pre W → pre.length < len → YieldAt Fence.wide (n - 1) Yba.prog l #[.agg (heldA x)] W fun e W' =>
      (e = .returned (.bool true) ∧ J (pre ++ [x]) W' ∧ KpB n₀ Bl W W') ∨ (e = .returned (.bool false) ∧ Jx (pre ++ [x]) W'))
    (W : World) (hn₀ : n₀ ≤ W.heap.size) (hBl : W.heap[Bl]? = some (.cells #[.pointer (some ⟨S, 5, none⟩)] 92)) (hL : HL W S G len dropping started es) (h0 : J [] W) :
    CallsIn Fence.wide n Yba.prog 21 #[.func (.yield l) #[] #[], .pointer (some ⟨Bl, 0, none⟩)] W fun e W' => (∃ v, e = .returned v) ∧
      ((∃ ys, ys = keptL dropping started es len ∧ J ys W') ∨ (∃ pre, True ∧ Jx pre W')) := by
  have hcl : W.cell? ⟨Bl, 0, none⟩ = some (.pointer (some ⟨S, 5, none⟩)) := by simp [World.cell?, hBl]
  have hheld := hL.held
  refine callsIn_of_wp Yba.func21 rfl trivial ?_ rfl
  simp only [Yba.ntmps21, List.size_toArray, List.length_cons, List.length_nil, Nat.reduceAdd, Nat.reduceSub, Array.replicate_succ, Array.replicate_zero, List.push_toArray, List.append_toArray, List.nil_append, List.cons_append]
  gi_wp2
  gi_loopw [9] (fun i wr => ∃ k : Nat, k ≤ len ∧ i = .int .i64 k ∧ J (keptL dropping started es k) wr ∧ KpB n₀ Bl W wr)
    (fun i _ => len - (intOf i).toNat)
  case atStart => exact ⟨0, Nat.zero_le _, rfl, h0, Below.refl _ _, rfl⟩
  case round =>
    obtain ⟨k, hk, rfl, hJs, hnx⟩ := hrel
    have hL' := hL.below hnx.1 hS hG
    have hcl' : wr.cell? ⟨Bl, 0, none⟩ = some (.pointer (some ⟨S, 5, none⟩)) := by simp [World.cell?, hnx.2, hBl]
    have hnr : n₀ ≤ wr.heap.size := Nat.le_trans hn₀ hnx.1.size
    have hbr : Bl < wr.heap.size := (Array.getElem?_eq_some_iff.1 (hnx.2.trans hBl)).1
    by_cases hlt : k < len
    · have hkl : (k : Int) < (len : Int) := by omega
      have c5 := hL'.held
      have c6 := hL'.drop
      have c7 := hL'.start
      obtain ⟨d0, d1, d2, d3, d4, d5, d6, d7, d8, d9, d10, d11, d12, d13⟩ := hL'.cells hlt
      have hmix : Yba.prog.follows .mixedOrders = true := by kernel_rfl
      cases hkp : kpE dropping started (es k)
      · gi_wp2
        refine wpIn_wide.2 ?_
        go_quiet ((go_at_call 22; exact Calls.quiet_of (kept_is false S 5 G (k * 14) (tmr (es k).sel) (es k).deact dropping (es k).unt started _ (noT (es k).sel) hkp (noT_isEmpty _) (by exact c6) (by exact c7) (by exact d0) (by exact d11) (by exact d12))))
        gi_wp2
        exact ⟨⟨k + 1, by omega, by go_num, by rw [keptL_no hkp]; exact hJd _ _ _ hJs (grown_dN wr nq), hnx.trans (kpB_grown (grown_dN wr nq) hnr hbr)⟩, by simp [intOf]; omega⟩
      · gi_wp2
        gi_region_with_o (first
          | (refine ⟨trivial, ?_⟩; gi_at_call 22; refine (callsIn_wide.2 (kept_is true S 5 G (k * 14) (tmr (es k).sel) (es k).deact dropping (es k).unt started _ (noT (es k).sel) hkp (noT_isEmpty _) (by exact c6) (by exact c7) (by exact d0) (by exact d11) (by exact d12))).mono ?_; rintro e w2 ⟨rfl, hq⟩; have hg2 : wr.grownBy w2 none := (by obtain ⟨q, rfl⟩ := hq; exact grown_dr wr q); have hL2 := hL'.drawn hg2; have e5 := hL2.held; have el : w2.cell? ⟨Bl, 0, none⟩ = some (.pointer (some ⟨S, 5, none⟩)) := hg2.cell hcl' (by simp); obtain ⟨f0, f1, f2, f3, f4, f5, f6, f7, f8, f9, f10, f11, f12, f13⟩ := hL2.cells hlt; obtain ⟨fn, tmps, assign, body, hy, hR⟩ := hY _ (es k) w2 (hJd _ _ _ hJs hg2) (by have := keptL_le dropping started es k; omega); simp only [heldA] at hy)
          | (refine hR.mono ?_; intro e W3 h3; obtain ⟨bb, rfl, hbt, hbf⟩ := yield_out h3; clear h3))
        all_goals
          cases bb
          · have hx := hbf rfl
            gi_wp2
            refine bodyPost_ret (results_none rfl _ _ _) rfl ?_
            exact ⟨⟨_, rfl⟩, .inr ⟨_, hx⟩⟩
          · obtain ⟨hJ3, hk3⟩ := hbt rfl
            gi_wp2
            exact ⟨⟨k + 1, by omega, by go_num, by rw [keptL_yes hkp]; exact hJ3, (hnx.trans (kpB_grown hg2 hnr hbr)).trans hk3⟩, by simp [intOf]; omega⟩
    · obtain rfl : k = len := by omega
      gi_wp2
      go_end0
      exact ⟨⟨_, rfl⟩, .inl ⟨_, rfl, hJs⟩⟩

set_option maxHeartbeats 1000000 in
theorem all_in (n : Nat) (S : Nat) (w : World) :
    CallsIn Fence.wide n Yba.prog 18 #[.pointer (some ⟨S, 5, none⟩)] w fun e w' => e = .returned (.func (.func 21) #[] #[.pointer (some ⟨w.heap.size, 0, none⟩)]) ∧ w' = w.alloc (.cells #[.pointer (some ⟨S, 5, none⟩)] 92) := by
  refine callsIn_of_wp Yba.func18 rfl trivial ?_ rfl
  simp only [Yba.ntmps18, List.size_toArray, List.length_cons, List.length_nil, Nat.reduceAdd, Nat.reduceSub, Array.replicate_succ, Array.replicate_zero, List.push_toArray, List.append_toArray, List.nil_append, List.cons_append]
  gi_wp2
  go_ret
  exact ⟨rfl, rfl⟩

/-- The iterator's contract. -/
theorem all_stops (n : Nat) (hn : 1 ≤ n) (Bl n₀ S G len : Nat) (dropping : Bool) (started : Int) (es : Nat → Ent) (hlen : len ≤ 1024) (hS : S < n₀) (hG : G < n₀) (w : World) (hn₀ : n₀ ≤ w.heap.size)
    (hBl : w.heap[Bl]? = some (.cells #[.pointer (some ⟨S, 5, none⟩)] 92)) (hL : HL w S G len dropping started es) :
    SeqStopsK Fence.wide n Yba.prog 21 #[.pointer (some ⟨Bl, 0, none⟩)] (fun x : Ent => #[Value.agg (heldA x)]) (KpB n₀ Bl) (fun ys => ys = keptL dropping started es len) (fun _ => True) len w := fun l J Jx W hW hJ _ hY h0 =>
  all1_in n hn l Bl n₀ S G len dropping started es hlen hS hG J Jx (fun pre A B hj hg => hJ pre A B none hj hg (fun _ e => by cases e)) hY W (Nat.le_trans hn₀ hW.size) ((hW.block Bl (Array.getElem?_eq_some_iff.1 hBl).1).trans hBl) (hL.below hW (Nat.lt_of_lt_of_le hS hn₀) (Nat.lt_of_lt_of_le hG hn₀)) h0
end Go.Proofs.Ybulkszs
