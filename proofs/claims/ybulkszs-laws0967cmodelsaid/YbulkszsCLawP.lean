import Derived.Test.YbulkszsCHolds
import Derived.Test.YbulkszsCShapes
import Derived.Deep.MidRow
import Derived.Deep.DeepCutAuto
namespace Go.Proofs.Ybulkszs
open Go.RowKit

def zero58 : Value := .agg #[.string ⟨#[]⟩, .bool false, .string ⟨#[]⟩, .string ⟨#[]⟩, .bool false, .string ⟨#[]⟩, .bool false, .int .u8 0, .int .u32 0, .bool false, .bool false, .int .i64 0, .bool false, .int .i64 0]
theorem info58 : (Yba.prog.info? 58).map (fun i => (i.zero, i.size, i.bytes)) = some (some zero58, 14, 128) := by kernel_rfl
theorem size58 : (Yba.prog.info? 58).map (·.size) = some 14 := by kernel_rfl
theorem hide {p : Prop} (h : p) : Hid p := h

/-- What 'make' has laid. -/
theorem there_of_owns {w : World} {base g n cap : Nat} {xs : List Value} (h : w.ownsRow base 58 14 (.slice (some ⟨g, 0, none⟩) n cap) n xs) : w.there g 0 (n * 14) ∧ g < w.heap.size := by
  obtain ⟨_, ⟨h0, _⟩ | ⟨g', cap', cur, hv, _, hblk, hnc, hcm, hsz, htk⟩⟩ := h
  · cases h0
  · cases hv
    refine ⟨fun j hj => ?_, blk_lt hblk⟩
    have hlt : j < cur.size := by rw [hsz]; exact Nat.lt_of_lt_of_le hj (Nat.mul_le_mul_right 14 hnc)
    constructor
    · rw [blk_cell hblk]; simp; exact hlt
    · simp [World.frozen?, hblk]

theorem heldA_size (e : Ent) : (heldA e).size = 14 := rfl
theorem heldA_one (e : Ent) : ((heldA e).all fun x => x.oneCell') = true := by simp [heldA, Value.oneCell']
theorem below_setCells {B b : Nat} {a : World} (hb : B ≤ b) : ∀ (vs : List Value) (o : Nat) (w : World), Below B a w → Below B a (w.setCells b o vs)
  | [], _, _, h => h
  | v :: r, o, w, h => below_setCells hb r (o + 1) (w.setCell ⟨b, o, none⟩ v) (h.setCell (p := ⟨b, o, none⟩) hb v)
theorem size_setCells (b : Nat) : ∀ (vs : List Value) (o : Nat) (w : World), (w.setCells b o vs).heap.size = w.heap.size
  | [], _, _ => rfl
  | v :: r, o, w => (size_setCells b r (o + 1) (w.setCell ⟨b, o, none⟩ v)).trans (by simp [World.setCell])
theorem there_sub {w : World} {g n o m : Nat} (h : w.there g 0 n) (hm : o + m ≤ n) : w.there g o m := fun j hj => by
  have := h (o + j) (by omega)
  simpa using this

/-- One round of the first loop. -/
theorem fill_step {w wr : World} {k len : Nat} {es : Nat → Ent} (hk : k < len) (hra : ∀ j, j < k → wr.rangeAt w.heap.size (j * 14) (heldA (es j)).toList) (hth : wr.there w.heap.size 0 (len * 14)) (hwr : Below w.heap.size w wr) (hgr : w.heap.size < wr.heap.size) (O1 O2 : Obj) :
    Hid (∀ j, j < k + 1 → (((wr.alloc O1).alloc O2).setCells w.heap.size (k * 14) (heldA (es k)).toList).rangeAt w.heap.size (j * 14) (heldA (es j)).toList) ∧
      Hid ((((wr.alloc O1).alloc O2).setCells w.heap.size (k * 14) (heldA (es k)).toList).there w.heap.size 0 (len * 14)) ∧
      Below w.heap.size w (((wr.alloc O1).alloc O2).setCells w.heap.size (k * 14) (heldA (es k)).toList) ∧
      w.heap.size < (((wr.alloc O1).alloc O2).setCells w.heap.size (k * 14) (heldA (es k)).toList).heap.size := by
  have ht2 := World.there_alloc (World.there_alloc hth O1) O2
  refine ⟨fun j hj => ?_, World.there_setCells ht2 _ _ _, below_setCells (Nat.le_refl _) _ _ _ ((hwr.alloc (by omega) O1).alloc (by simp; omega) O2), by rw [size_setCells]; simp; omega⟩
  by_cases e : j = k
  · subst e
    exact World.rangeAt_setCells_same _ _ _ _ (there_sub ht2 (by simp [heldA_size]; omega))
  · exact World.rangeAt_setCells_apart (World.rangeAt_alloc (World.rangeAt_alloc (hra j (by omega)) O1) O2) _ _ _ (.inr (.inl (by simp [heldA_size]; omega)))

/-- The Auditor that the law makes. -/
theorem aud_made {wr : World} {G len : Nat} {es : Nat → Ent} {dropping off_ : Bool} {started offAt : Int} (ST AU : Array Value) (N : Obj) (hra : ∀ j, j < len → wr.rangeAt G (j * 14) (heldA (es j)).toList) (hgr : G < wr.heap.size)
    (s5 : ST[5]? = some (.slice (some ⟨G, 0, none⟩) len len)) (s6 : ST[6]? = some (.bool dropping)) (s7 : ST[7]? = some (.int .i64 started)) (s11 : ST[11]? = some (.bool off_)) (s12 : ST[12]? = some (.int .i64 offAt)) (a4 : AU[4]? = some (.map (some (wr.heap.size + 1)))) :
    Aud ((((wr.alloc (.cells ST 68)).alloc (.map #[⟨.string { data := #[117, 101, 49] }, .pointer (some ⟨wr.heap.size, 0, none⟩), 0⟩] 1)).alloc N).alloc (.cells AU 79)) (wr.heap.size + 1 + 1 + 1) (wr.heap.size + 1) wr.heap.size G len dropping started off_ offAt es := by
  have bS : ((((wr.alloc (.cells ST 68)).alloc (.map #[⟨.string { data := #[117, 101, 49] }, .pointer (some ⟨wr.heap.size, 0, none⟩), 0⟩] 1)).alloc N).alloc (.cells AU 79)).heap[wr.heap.size]? = some (.cells ST 68) := blk_alloc (blk_alloc (blk_alloc (blk_new wr _) _) _) _
  have bM : ((((wr.alloc (.cells ST 68)).alloc (.map #[⟨.string { data := #[117, 101, 49] }, .pointer (some ⟨wr.heap.size, 0, none⟩), 0⟩] 1)).alloc N).alloc (.cells AU 79)).heap[wr.heap.size + 1]? = some (.map #[⟨.string { data := #[117, 101, 49] }, .pointer (some ⟨wr.heap.size, 0, none⟩), 0⟩] 1) := by
    have e := blk_new (wr.alloc (.cells ST 68)) (.map #[⟨.string { data := #[117, 101, 49] }, .pointer (some ⟨wr.heap.size, 0, none⟩), 0⟩] 1)
    rw [World.size_alloc] at e
    exact blk_alloc (blk_alloc e _) _
  have bA : ((((wr.alloc (.cells ST 68)).alloc (.map #[⟨.string { data := #[117, 101, 49] }, .pointer (some ⟨wr.heap.size, 0, none⟩), 0⟩] 1)).alloc N).alloc (.cells AU 79)).heap[wr.heap.size + 1 + 1 + 1]? = some (.cells AU 79) := by
    have e := blk_new (((wr.alloc (.cells ST 68)).alloc (.map #[⟨.string { data := #[117, 101, 49] }, .pointer (some ⟨wr.heap.size, 0, none⟩), 0⟩] 1)).alloc N) (.cells AU 79)
    rw [World.size_alloc, World.size_alloc, World.size_alloc] at e
    exact e
  refine ⟨(blk_cell bA 4).trans a4, bM, (blk_cell bS 11).trans s11, (blk_cell bS 12).trans s12, ⟨(blk_cell bS 5).trans s5, (blk_cell bS 6).trans s6, (blk_cell bS 7).trans s7, fun i hi j hj => ?_⟩, blk_lt bA, blk_lt bS, Nat.lt_trans hgr (blk_lt bS)⟩
  have hs : j < (heldA (es i)).size := hj
  rw [Array.getElem?_eq_getElem hs]
  exact World.rangeAt_alloc (World.rangeAt_alloc (World.rangeAt_alloc (World.rangeAt_alloc (hra i hi) _) _) _) _ j _ (by simp [Array.getElem?_toList, Array.getElem?_eq_getElem hs])

/-- How many of the first k entries are handed back. -/
def cnt (t : Int) (dropping : Bool) (started : Int) (es : Nat → Ent) (k : Nat) : Nat := (outL t (keptL dropping started es k)).length
theorem cnt_le (t : Int) (dropping : Bool) (started : Int) (es : Nat → Ent) (k : Nat) : cnt t dropping started es k ≤ k := Nat.le_trans (outL_le t _) (keptL_le dropping started es k)
theorem cnt_no1 {t : Int} {dropping : Bool} {started : Int} {es : Nat → Ent} {k : Nat} (h : kpE dropping started (es k) = false) : cnt t dropping started es (k + 1) = cnt t dropping started es k := by
  unfold cnt; rw [keptL_no h]
theorem cnt_no2 {t : Int} {dropping : Bool} {started : Int} {es : Nat → Ent} {k : Nat} (h : hAt (es k).deact t (es k).unt = false) : cnt t dropping started es (k + 1) = cnt t dropping started es k := by
  unfold cnt
  cases hk : kpE dropping started (es k)
  · rw [keptL_no hk]
  · rw [keptL_yes hk, outL_miss _ h]
theorem cnt_yes {t : Int} {dropping : Bool} {started : Int} {es : Nat → Ent} {k : Nat} (h1 : kpE dropping started (es k) = true) (h2 : hAt (es k).deact t (es k).unt = true) : cnt t dropping started es (k + 1) = cnt t dropping started es k + 1 := by
  unfold cnt; rw [keptL_yes h1, outL_hit _ h2]; simp
theorem keptL_pre (dropping : Bool) (started : Int) (es : Nat → Ent) (k m : Nat) : keptL dropping started es k <+: keptL dropping started es (k + m) := by
  induction m with
  | zero => exact List.prefix_refl _
  | succ m ih =>
    refine List.IsPrefix.trans ih ?_
    show _ <+: keptL dropping started es ((k + m) + 1)
    cases h : kpE dropping started (es (k + m))
    · rw [keptL_no h]; exact List.prefix_refl _
    · rw [keptL_yes h]; exact List.prefix_append _ _
theorem got_at {t : Int} {dropping : Bool} {started : Int} {es : Nat → Ent} {k len : Nat} (hk : k < len) (h1 : kpE dropping started (es k) = true) (h2 : hAt (es k).deact t (es k).unt = true) :
    (outL t (keptL dropping started es len))[cnt t dropping started es k]? = some (es k) := by
  have hp := keptL_pre dropping started es (k + 1) (len - (k + 1))
  rw [show k + 1 + (len - (k + 1)) = len by omega] at hp
  obtain ⟨r, hr⟩ := hp
  rw [keptL_yes h1] at hr
  unfold cnt
  rw [← hr]
  simp [outL, h2]
theorem got_ne {t : Int} {dropping : Bool} {started : Int} {es : Nat → Ent} {k len : Nat} (hk : k < len) (h1 : kpE dropping started (es k) = true) (h2 : hAt (es k).deact t (es k).unt = true) : outL t (keptL dropping started es len) ≠ [] := by
  intro h
  have := got_at hk h1 h2
  rw [h] at this
  simp at this
theorem flatU_length (l : List Ent) : (flatU l).length = l.length * 15 := by
  induction l with
  | nil => rfl
  | cons x l ih => simp [flatU] at ih ⊢; rw [ih]; simp [uehA]; omega
theorem flatU_get (l : List Ent) (i j : Nat) (e : Ent) (hi : l[i]? = some e) (hj : j < 15) : (flatU l)[i * 15 + j]? = (uehA e)[j]? := by
  induction l generalizing i with
  | nil => simp at hi
  | cons x l ih =>
    have ex : flatU (x :: l) = (uehA x).toList ++ flatU l := by simp [flatU]
    have hx : (uehA x).toList.length = 15 := rfl
    rw [ex]
    cases i with
    | zero =>
      simp at hi
      subst hi
      rw [List.getElem?_append_left (by rw [hx]; omega)]
      simp
    | succ i =>
      rw [List.getElem?_append_right (by rw [hx]; omega), hx, show (i + 1) * 15 + j - 15 = i * 15 + j by omega]
      exact ih i (by simpa using hi)
/-- The slice that is handed back. -/
theorem got_form {w : World} {base : Nat} {v : Value} {l : List Ent} (h : w.ownsRow base 83 15 v l.length (flatU l)) (hl : l ≠ []) : ∃ g cap, v = .slice (some ⟨g, 0, none⟩) l.length cap ∧ g < w.heap.size ∧ ∀ i e, l[i]? = some e → ∀ j, j < 15 → w.cell? ⟨g, i * 15 + j, none⟩ = (uehA e)[j]? := by
  obtain ⟨_, ⟨_, h0⟩ | ⟨g, cap, cur, hv, _, hblk, hnc, hcm, hsz, htk⟩⟩ := h
  · exact absurd (List.eq_nil_of_length_eq_zero h0) hl
  · refine ⟨g, cap, hv, blk_lt hblk, fun i e he j hj => ?_⟩
    have hi : i < l.length := (List.getElem?_eq_some_iff.1 he).1
    have e1 := flatU_get l i j e he hj
    rw [← htk, List.getElem?_take_of_lt (by omega)] at e1
    rw [blk_cell hblk]
    simpa using e1

theorem got_cells {w wr : World} {g c : Nat} {e : Ent} (h : ∀ j, j < 15 → w.cell? ⟨g, c * 15 + j, none⟩ = (uehA e)[j]?) (hb : Below w.heap.size w wr) (hg : g < w.heap.size) :
    wr.cell? ⟨g, c * 15, none⟩ = some (.string { data := #[117, 101, 49] }) ∧ wr.cell? ⟨g, c * 15 + 1, none⟩ = some (.string (tmr e.sel)) ∧ wr.cell? ⟨g, c * 15 + 2, none⟩ = some (.bool false) ∧ wr.cell? ⟨g, c * 15 + 3, none⟩ = some (.string ⟨#[]⟩) ∧
    wr.cell? ⟨g, c * 15 + 4, none⟩ = some (.string ⟨#[]⟩) ∧ wr.cell? ⟨g, c * 15 + 5, none⟩ = some (.bool false) ∧ wr.cell? ⟨g, c * 15 + 6, none⟩ = some (.string ⟨#[]⟩) ∧ wr.cell? ⟨g, c * 15 + 7, none⟩ = some (.bool false) ∧ wr.cell? ⟨g, c * 15 + 8, none⟩ = some (.int .u8 0) ∧
    wr.cell? ⟨g, c * 15 + 9, none⟩ = some (.int .u32 0) ∧ wr.cell? ⟨g, c * 15 + 10, none⟩ = some (.bool false) ∧ wr.cell? ⟨g, c * 15 + 11, none⟩ = some (.bool false) ∧ wr.cell? ⟨g, c * 15 + 12, none⟩ = some (.int .i64 e.unt) ∧ wr.cell? ⟨g, c * 15 + 13, none⟩ = some (.bool e.deact) ∧ wr.cell? ⟨g, c * 15 + 14, none⟩ = some (.int .i64 e.since) := by
  have key : ∀ j, j < 15 → wr.cell? ⟨g, c * 15 + j, none⟩ = (uehA e)[j]? := fun j hj => (hb.cell (p := ⟨g, c * 15 + j, none⟩) hg).trans (h j hj)
  exact ⟨key 0 (by omega), key 1 (by omega), key 2 (by omega), key 3 (by omega), key 4 (by omega), key 5 (by omega), key 6 (by omega), key 7 (by omega), key 8 (by omega), key 9 (by omega), key 10 (by omega), key 11 (by omega), key 12 (by omega), key 13 (by omega), key 14 (by omega)⟩
theorem t_on {off_ : Bool} {tt offAt at_ : Int} (HT : Hid (tt = if off_ = true then offAt else at_)) (h : off_ = true) : Value.int .i64 offAt = .int .i64 tt := by rw [HT.out, if_pos h]
theorem t_off {off_ : Bool} {tt offAt at_ : Int} (HT : Hid (tt = if off_ = true then offAt else at_)) (h : ¬ off_ = true) : Value.int .i64 at_ = .int .i64 tt := by rw [HT.out, if_neg h]
theorem kpE_a {dropping : Bool} {started : Int} {e : Ent} (h : e.sel % 4 = 0) : kpE dropping started e = false := by simp [kpE, kp, noT, h]
theorem kpE_b {started : Int} {e : Ent} (h1 : e.deact = false) (h2 : e.unt ≤ started) : kpE true started e = false := by
  have : ¬ started < e.unt := by omega
  simp [kpE, kp, h1, this]
theorem kpE_yes {dropping : Bool} {started : Int} {e : Ent} (h : ¬ e.sel % 4 = 0) (h2 : e.deact = true ∨ dropping = false ∨ started < e.unt) : kpE dropping started e = true := by
  rcases h2 with h2 | h2 | h2 <;> simp [kpE, kp, noT, h, h2]
theorem hAt_no {deact : Bool} {t unt : Int} (h1 : deact = false) (h2 : unt ≤ t) : hAt deact t unt = false := by
  have : ¬ t < unt := by omega
  simp [hAt, h1, this]
theorem hAt_yes {deact : Bool} {t unt : Int} (h : deact = true ∨ t < unt) : hAt deact t unt = true := by
  rcases h with h | h <;> simp [hAt, h]

theorem belN (B : Nat) (w : World) (n : Nat) : Below B w (w.drewN n) := ⟨rfl, rfl, rfl, Nat.le_refl _, fun _ _ => rfl⟩
theorem bel4 (w : World) (o1 o2 o3 o4 : Obj) : Below w.heap.size w ((((w.alloc o1).alloc o2).alloc o3).alloc o4) := belT (bel2 w o1 o2) (bel2 _ o3 o4)

end Go.Proofs.Ybulkszs
