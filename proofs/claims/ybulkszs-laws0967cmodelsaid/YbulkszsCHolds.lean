import Derived.Test.YbulkszsCIter
import Derived.Test.YbulkszsCMap
import Derived.Deep.AppendLies
namespace Go.Proofs.Ybulkszs
open Go.RowKit Go.Shelf
attribute [local go_sem] Oper.semAt_some

def zero83 : Value := .agg #[.string ⟨#[]⟩, .string ⟨#[]⟩, .bool false, .string ⟨#[]⟩, .string ⟨#[]⟩, .bool false, .string ⟨#[]⟩, .bool false, .int .u8 0, .int .u32 0, .bool false, .bool false, .int .i64 0, .bool false, .int .i64 0]
theorem info83 : (Yba.prog.info? 83).map (fun i => (i.zero, i.size, i.bytes)) = some (some zero83, 15, 144) := by kernel_rfl

/-- The Auditor at block A, its map at block M, the UE's state at block S, its entries at block G. -/
structure Aud (W : World) (A M S G len : Nat) (dropping : Bool) (started : Int) (off : Bool) (offAt : Int) (es : Nat → Ent) : Prop where
  ues : W.cell? ⟨A, 4, none⟩ = some (.map (some M))
  map : W.heap[M]? = some (.map #[⟨.string { data := #[117, 101, 49] }, .pointer (some ⟨S, 0, none⟩), 0⟩] 1)
  offc : W.cell? ⟨S, 11, none⟩ = some (.bool off)
  offAtc : W.cell? ⟨S, 12, none⟩ = some (.int .i64 offAt)
  list : HL W S G len dropping started es
  ltA : A < W.heap.size
  ltS : S < W.heap.size
  ltG : G < W.heap.size

theorem bel1 (w : World) (o1 : Obj) : Below w.heap.size w (w.alloc o1) := (Below.refl _ _).alloc (Nat.le_refl _) o1
theorem bel2 (w : World) (o1 o2 : Obj) : Below w.heap.size w ((w.alloc o1).alloc o2) := (bel1 w o1).alloc (by simp) o2
theorem belT {w w1 w2 : World} (h : Below w.heap.size w w1) (k : Below w1.heap.size w1 w2) : Below w.heap.size w w2 := h.trans (k.mono h.size)
theorem belD {w w1 : World} (h : Below w.heap.size w w1) (n : Nat) : Below w.heap.size w (w1.drewN n) := h.trans ⟨rfl, rfl, rfl, Nat.le_refl _, fun _ _ => rfl⟩

set_option maxRecDepth 100000 in
set_option maxHeartbeats 2000000 in
theorem holdsOf_none (n A M S G len : Nat) (dropping : Bool) (started : Int) (off : Bool) (offAt : Int) (es : Nat → Ent) (at_ : Int) (w : World) (h : Aud w A M S G len dropping started off offAt es) :
    CallsIn Fence.wide n Yba.prog 16 #[.pointer (some ⟨A, 0, none⟩), .string { data := #[117, 101, 50] }, .int .i64 at_] w fun e W' => e = .returned (.slice none 0 0) ∧ Below w.heap.size w W' := by
  have c4 := h.ues
  have hlt := h.ltA
  have hlk : ∀ q, (Instr.lookup 70 (.map (some M)) (.string { data := #[117, 101, 50] }) true).run Yba.prog (((w.alloc (.cells #[.string { data := #[117, 101, 50] }] 9)).alloc (.cells #[.int .i64 at_] 25)).drewN q) = .ok (.tuple #[.pointer none, .bool false]) (((w.alloc (.cells #[.string { data := #[117, 101, 50] }] 9)).alloc (.cells #[.int .i64 at_] 25)).drewN q) := by
    intro q
    refine run_look2 _ M (.pointer (some ⟨S, 0, none⟩)) ?_
    have hM := (Array.getElem?_eq_some_iff.1 h.map).1
    exact ((Below.heap_alloc _ _ _ (by simp; omega)).trans (Below.heap_alloc _ _ _ hM)).trans h.map
  refine callsIn_of_wp Yba.func16 rfl trivial ?_ rfl
  simp only [Yba.ntmps16, List.size_toArray, List.length_cons, List.length_nil, Nat.reduceAdd, Nat.reduceSub, Array.replicate_succ, Array.replicate_zero, List.push_toArray, List.append_toArray, List.nil_append, List.cons_append]
  gi_wp2
  refine wpIn_wide.2 ?_
  go_quiet (fail)
  gi_wp2
  go_ret
  exact ⟨rfl, belD (bel2 _ _ _) _⟩

/-- The cells of one hold as it is handed back. -/
def uehA (e : Ent) : Array Value := #[.string { data := #[117, 101, 49] }, .string (tmr e.sel), .bool false, .string ⟨#[]⟩, .string ⟨#[]⟩, .bool false, .string ⟨#[]⟩, .bool false, .int .u8 0, .int .u32 0, .bool false, .bool false, .int .i64 e.unt, .bool e.deact, .int .i64 e.since]
/-- Those that hold at t. -/
def outL (t : Int) (l : List Ent) : List Ent := l.filter fun e => hAt e.deact t e.unt
def flatU (l : List Ent) : List Value := l.flatMap fun e => (uehA e).toList
theorem outL_hit {t : Int} (pre : List Ent) {x : Ent} (h : hAt x.deact t x.unt = true) : outL t (pre ++ [x]) = outL t pre ++ [x] := by simp [outL, h]
theorem outL_miss {t : Int} (pre : List Ent) {x : Ent} (h : hAt x.deact t x.unt = false) : outL t (pre ++ [x]) = outL t pre := by simp [outL, h]
theorem outL_le (t : Int) (pre : List Ent) : (outL t pre).length ≤ pre.length := List.length_filter_le _ _
theorem flatU_snoc (l : List Ent) (x : Ent) : flatU (l ++ [x]) = flatU l ++ (uehA x).toList := by simp [flatU]
theorem uehA_one (x : Ent) : ∀ u ∈ (uehA x).toList, u.oneCell' = true := by
  intro u hu
  simp [uehA] at hu
  rcases hu with rfl | rfl | rfl | rfl | rfl | rfl | rfl | rfl | rfl | rfl | rfl | rfl | rfl <;> rfl
theorem holdsAt_is (r : Bool) (c0 c1 c2 c3 c4 c5 c6 c7 c8 c9 c10 : Value) (unt at_ : Int) (deact : Bool) (w : World) (hr : hAt deact at_ unt = r) :
    Calls Yba.prog 19 #[.agg #[c0, c1, c2, c3, c4, c5, c6, c7, c8, c9, c10, .int .i64 unt, .bool deact], .int .i64 at_] w fun e w' => e = .returned (.bool r) ∧ w' = w.alloc (.cells #[c0, c1, c2, c3, c4, c5, c6, c7, c8, c9, c10, .int .i64 unt, .bool deact] 56) := by
  subst hr
  exact holdsAt_any c0 c1 c2 c3 c4 c5 c6 c7 c8 c9 c10 unt at_ deact w
theorem set_box (w0 : World) (v v' : Value) (t : TypeId) (q b : Nat) (hb : b = w0.heap.size) : ((w0.alloc (.cells #[v] t)).drewN q).setCell ⟨b, 0, none⟩ v' = (w0.alloc (.cells #[v'] t)).drewN q := by
  subst hb
  show ((w0.alloc (.cells #[v] t)).setCell ⟨w0.heap.size, 0, none⟩ v').drewN q = _
  rw [World.setCell_alloc_at _ _ _ _ _ rfl]
  rfl
theorem blk_new (w : World) (O : Obj) : (w.alloc O).heap[w.heap.size]? = some O := by
  show (w.heap.push O)[w.heap.size]? = _
  simp
theorem blk_lt {w : World} {b : Nat} {X : Obj} (h : w.heap[b]? = some X) : b < w.heap.size := (Array.getElem?_eq_some_iff.1 h).1
theorem blk_alloc {w : World} {b : Nat} {X : Obj} (h : w.heap[b]? = some X) (O : Obj) : (w.alloc O).heap[b]? = some X := (Below.heap_alloc w O b (blk_lt h)).trans h
theorem blk_cell {w : World} {b : Nat} {cs : Array Value} {t : TypeId} {fr : Nat × Nat} (h : w.heap[b]? = some (.cells cs t fr)) (o : Nat) : w.cell? ⟨b, o, none⟩ = cs[o]? := by simp [World.cell?, h]
theorem kpB_b {n₀ Bl B : Nat} (hn : n₀ ≤ B) (hb : Bl < B) (W : World) (l : Nat) (o o' : Obj) (hl : B ≤ l) (ho : W.heap[l]? = some o) (_ : o.isCells = false) (_ : o.isWalk = false) : KpB n₀ Bl W (W.putObj l o') := by
  have hlt := blk_lt ho
  refine ⟨(Below.refl n₀ W).grown (grownBy_putObj' W l o') (by omega) (fun k e => by cases e; omega), (grownBy_putObj' W l o').block Bl (by omega) (fun e => by cases e; omega)⟩
theorem kpB_alloc {n₀ Bl : Nat} (W : World) (o : Obj) (hn : n₀ ≤ W.heap.size) (hb : Bl < W.heap.size) : KpB n₀ Bl W (W.alloc o) := ⟨(Below.refl n₀ W).alloc hn o, Below.heap_alloc W o Bl hb⟩

set_option maxRecDepth 100000 in
set_option maxHeartbeats 4000000 in
theorem holdsOf_some (n : Nat) (hn : 3 ≤ n) (A M S G len : Nat) (dropping : Bool) (started : Int) (off : Bool) (offAt : Int) (es : Nat → Ent) (hlen : len ≤ 1024) (at_ t : Int) (ht : t = if off = true then offAt else at_) (w : World) (h : Aud w A M S G len dropping started off offAt es) :
    CallsIn Fence.wide n Yba.prog 16 #[.pointer (some ⟨A, 0, none⟩), .string { data := #[117, 101, 49] }, .int .i64 at_] w fun e W' => ∃ v, e = .returned v ∧ W'.ownsRow w.heap.size 83 15 v (outL t (keptL dropping started es len)).length (flatU (outL t (keptL dropping started es len))) ∧
      (v = .slice none 0 0 ↔ outL t (keptL dropping started es len) = []) ∧ Below w.heap.size w W' := by
  have c4 := h.ues
  have hltA := h.ltA
  have hltS := h.ltS
  have hltG := h.ltG
  have c11 := h.offc
  have c12 := h.offAtc
  have hL := h.list
  have h1 : 1 ≤ n := by omega
  have hlk : ∀ q, (Instr.lookup 70 (.map (some M)) (.string { data := #[117, 101, 49] }) true).run Yba.prog (((w.alloc (.cells #[.string { data := #[117, 101, 49] }] 9)).alloc (.cells #[.int .i64 at_] 25)).drewN q) = .ok (.tuple #[.pointer (some ⟨S, 0, none⟩), .bool true]) (((w.alloc (.cells #[.string { data := #[117, 101, 49] }] 9)).alloc (.cells #[.int .i64 at_] 25)).drewN q) := by
    intro q
    refine run_look1 _ M (.pointer (some ⟨S, 0, none⟩)) ?_
    have hM := (Array.getElem?_eq_some_iff.1 h.map).1
    exact ((Below.heap_alloc _ _ _ (by simp; omega)).trans (Below.heap_alloc _ _ _ hM)).trans h.map
  clear h
  refine callsIn_of_wp_marks Yba.func16 rfl trivial ?_ rfl
  simp only [Yba.ntmps16, List.size_toArray, List.length_cons, List.length_nil, Nat.reduceAdd, Nat.reduceSub, Array.replicate_succ, Array.replicate_zero, List.push_toArray, List.append_toArray, List.nil_append, List.cons_append]
  gi_wp2
  refine wpIn_wide.2 ?_
  go_quiet (fail)
  clear hlk
  obtain ⟨i0, hi, hz0, hz1, hz2⟩ := info_parts info83
  cases off
  · obtain rfl : t = at_ := ht
    gi_wp2_with (refine ⟨trivial, ?_⟩; gi_at_call 18; refine (all_in (n - 1) S _).mono ?_; rintro e w' ⟨rfl, rfl⟩)
    have B0 : Boxed (((((w.alloc (.cells #[.string { data := #[117, 101, 49] }] 9)).alloc (.cells #[.int .i64 t] 25)).drewN nq).alloc (.cells #[.slice none 0 0] 80)).alloc (.cells #[.pointer (some ⟨S, 5, none⟩)] 92)) w.heap.size 9 (.string { data := #[117, 101, 49] }) := blk_alloc (w := (((w.alloc (.cells #[.string { data := #[117, 101, 49] }] 9)).alloc (.cells #[.int .i64 t] 25)).drewN nq).alloc (.cells #[.slice none 0 0] 80)) (blk_alloc (w := ((w.alloc (.cells #[.string { data := #[117, 101, 49] }] 9)).alloc (.cells #[.int .i64 t] 25)).drewN nq) (show ((w.alloc _).alloc _).heap[w.heap.size]? = _ from blk_alloc (blk_new w _) _) _) _
    have B1 : Boxed (((((w.alloc (.cells #[.string { data := #[117, 101, 49] }] 9)).alloc (.cells #[.int .i64 t] 25)).drewN nq).alloc (.cells #[.slice none 0 0] 80)).alloc (.cells #[.pointer (some ⟨S, 5, none⟩)] 92)) (w.heap.size + 1) 25 (.int .i64 t) := by
      have e := blk_new (w.alloc (.cells #[.string { data := #[117, 101, 49] }] 9)) (.cells #[.int .i64 t] 25)
      rw [World.size_alloc] at e
      exact blk_alloc (w := (((w.alloc (.cells #[.string { data := #[117, 101, 49] }] 9)).alloc (.cells #[.int .i64 t] 25)).drewN nq).alloc (.cells #[.slice none 0 0] 80)) (blk_alloc (w := ((w.alloc (.cells #[.string { data := #[117, 101, 49] }] 9)).alloc (.cells #[.int .i64 t] 25)).drewN nq) e _) _
    have B2 : Boxed (((((w.alloc (.cells #[.string { data := #[117, 101, 49] }] 9)).alloc (.cells #[.int .i64 t] 25)).drewN nq).alloc (.cells #[.slice none 0 0] 80)).alloc (.cells #[.pointer (some ⟨S, 5, none⟩)] 92)) (w.heap.size + 1 + 1) 80 (.slice none 0 0) := by
      have e := blk_new (((w.alloc (.cells #[.string { data := #[117, 101, 49] }] 9)).alloc (.cells #[.int .i64 t] 25)).drewN nq) (.cells #[.slice none 0 0] 80)
      rw [show (((w.alloc (.cells #[.string { data := #[117, 101, 49] }] 9)).alloc (.cells #[.int .i64 t] 25)).drewN nq).heap.size = w.heap.size + 1 + 1 from by show (((w.alloc _).alloc _)).heap.size = _; simp] at e
      exact blk_alloc e _
    have B3 : Boxed (((((w.alloc (.cells #[.string { data := #[117, 101, 49] }] 9)).alloc (.cells #[.int .i64 t] 25)).drewN nq).alloc (.cells #[.slice none 0 0] 80)).alloc (.cells #[.pointer (some ⟨S, 5, none⟩)] 92)) (w.heap.size + 1 + 1 + 1) 92 (.pointer (some ⟨S, 5, none⟩)) := by
      have e := blk_new ((((w.alloc (.cells #[.string { data := #[117, 101, 49] }] 9)).alloc (.cells #[.int .i64 t] 25)).drewN nq).alloc (.cells #[.slice none 0 0] 80)) (.cells #[.pointer (some ⟨S, 5, none⟩)] 92)
      rw [World.size_alloc, show (((w.alloc (.cells #[.string { data := #[117, 101, 49] }] 9)).alloc (.cells #[.int .i64 t] 25)).drewN nq).heap.size = w.heap.size + 1 + 1 from by show (((w.alloc _).alloc _)).heap.size = _; simp] at e
      exact e
    have hB0 : Below w.heap.size w (((((w.alloc (.cells #[.string { data := #[117, 101, 49] }] 9)).alloc (.cells #[.int .i64 t] 25)).drewN nq).alloc (.cells #[.slice none 0 0] 80)).alloc (.cells #[.pointer (some ⟨S, 5, none⟩)] 92)) := belT (belD (bel2 _ _ _) nq) (bel2 _ _ _)
    have hs0 : (((((w.alloc (.cells #[.string { data := #[117, 101, 49] }] 9)).alloc (.cells #[.int .i64 t] 25)).drewN nq).alloc (.cells #[.slice none 0 0] 80)).alloc (.cells #[.pointer (some ⟨S, 5, none⟩)] 92)).heap.size = w.heap.size + 4 := by
      rw [World.size_alloc, World.size_alloc, show (((w.alloc (.cells #[.string { data := #[117, 101, 49] }] 9)).alloc (.cells #[.int .i64 t] 25)).drewN nq).heap.size = w.heap.size + 1 + 1 from by show (((w.alloc _).alloc _)).heap.size = _; simp]
    have hL0 := hL.below hB0 hltS hltG
    generalize (((((w.alloc (.cells #[.string { data := #[117, 101, 49] }] 9)).alloc (.cells #[.int .i64 t] 25)).drewN nq).alloc (.cells #[.slice none 0 0] 80)).alloc (.cells #[.pointer (some ⟨S, 5, none⟩)] 92)) = W0 at *
    refine wpIn_rangeFunc_ownH rfl h1 (gf := 21) (lb := #[.pointer (some ⟨w.heap.size + 1 + 1 + 1, 0, none⟩)]) rfl trivial (enters_of Yba.func21 (by kernel_rfl) rfl)
      (all_stops (n - 1) (by omega) (w.heap.size + 1 + 1 + 1) w.heap.size S G len dropping started es hlen hltS hltG W0 (by omega) B3 hL0) KpB.trans (kpB_b (by omega) (by omega)) (Below.refl _ _) (fun _ => rfl)
      (fun pre W => (∃ v, Boxed W (w.heap.size + 1 + 1) 80 v ∧ W.ownsRow w.heap.size 83 15 v (outL t pre).length (flatU (outL t pre)) ∧ (v = .slice none 0 0 ↔ outL t pre = [])) ∧ ((Boxed W w.heap.size 9 (.string { data := #[117, 101, 49] }) ∧ Boxed W (w.heap.size + 1) 25 (.int .i64 t)) ∧ (Boxed W (w.heap.size + 1 + 1 + 1) 92 (.pointer (some ⟨S, 5, none⟩)) ∧ Below w.heap.size w W)))
      (fun _ _ _ => False)
      (OwnFrom.and (Own.from (holdsRow_own w.heap.size (w.heap.size + 1 + 1) 80 83 15 (fun pre => (outL t pre).length) (fun pre => flatU (outL t pre)) (fun pre v => v = .slice none 0 0 ↔ outL t pre = [])) _) (OwnFrom.and (OwnFrom.and (Own.from (boxed_own _ _ _) _) (Own.from (boxed_own _ _ _) _)) (OwnFrom.and (Own.from (boxed_own _ _ _) _) (ownFrom_below (Nat.le_refl _) (by omega)))))
      (fun _ _ _ _ _ hs _ _ => hs)
      ⟨⟨_, B2, World.ownsRow_nil _ _ _ _, by simp [outL]⟩, ⟨B0, B1⟩, B3, hB0⟩
      (fun x a' W => ∃ Bx, w.heap.size + 1 + 1 + 1 < Bx ∧ W.heap[Bx]? = some (.cells (heldA x) 58) ∧ a' = { tmps := #[.pointer (some ⟨A, 0, none⟩), .string { data := #[117, 101, 49] }, .int .i64 t, undef, .pointer (some ⟨w.heap.size, 0, none⟩), .pointer (some ⟨w.heap.size + 1, 0, none⟩), .slice none 0 0, .pointer (some ⟨S, 0, none⟩), .bool true, .pointer (some ⟨w.heap.size + 1 + 1, 0, none⟩), .pointer (some ⟨Bx, 0, none⟩), .tuple #[.pointer (some ⟨S, 0, none⟩), .bool true], .pointer (some ⟨A, 0, none⟩), .pointer (some ⟨A, 0, none⟩), .pointer (some ⟨A, 4, none⟩), .map (some M), .string { data := #[117, 101, 49] }, .tuple #[.pointer (some ⟨S, 0, none⟩), .bool true], .pointer (some ⟨S, 0, none⟩), .bool true, .bool true, .bool false, .pointer (some ⟨S, 0, none⟩), .pointer (some ⟨S, 0, none⟩), .pointer (some ⟨S, 11, none⟩), .bool false, undef, undef, undef, undef, .pointer (some ⟨S, 0, none⟩), .pointer (some ⟨S, 0, none⟩), .pointer (some ⟨S, 5, none⟩), .func (.func 21) #[] #[.pointer (some ⟨w.heap.size + 1 + 1 + 1, 0, none⟩)], .agg (heldA x), undef, undef, undef, undef, undef, undef, undef, undef, undef, undef, undef, undef, undef, undef], defers := [] })
      (fun x a' _ X Y row hs hg hr => by obtain ⟨Bx, h1, h2, h3⟩ := hs; exact ⟨Bx, h1, (hg.block Bx (blk_lt h2) (fun e => by obtain ⟨o, ho, hc⟩ := (hr Bx e.symm).2; rw [h2] at ho; cases ho; cases hc)).trans h2, h3⟩)
      ?assign ?body ?done ?stop
    case assign =>
      rintro l pre x W K ⟨⟨v, hv, hrow, hnil⟩, ⟨b0, b1⟩, b3, hB⟩ hK
      simp only [heldA] at hK ⊢
      gi_wp2
      exact hK _ _ ((KeepsOthers.alloc _ _).from _) (kpB_alloc W _ hB.size b3.lt) ⟨⟨v, hv.alloc _, hrow.alloc _, hnil⟩, ⟨b0.alloc _, b1.alloc _⟩, b3.alloc _, hB.alloc hB.size _⟩ ⟨W.heap.size, b3.lt, blk_new W _, rfl⟩
    case body =>
      rintro l pre x a' W hl ⟨r, hr⟩ ⟨⟨v, hv, hrow, hnil⟩, ⟨b0, b1⟩, b3, hB⟩ ⟨Bx, hBx, bX, rfl⟩ hlt
      have cv := hv.cell
      have c0 := b0.cell
      have c1 := b1.cell
      have cX := blk_cell bX
      have nX := blk_lt bX
      have nv := hv.lt
      have n0 := b0.lt
      have n1 := b1.lt
      have hpl := outL_le t pre
      have h1' : 1 ≤ n - 1 - 1 := by omega
      simp only [heldA] at cX ⊢
      cases hA : hAt x.deact t x.unt
      · gi_wp2_with (refine ⟨trivial, ?_⟩; gi_at_call 19; refine (CallsIn.inRound l (callsIn_wide.2 (holdsAt_is false _ _ _ _ _ _ _ _ _ _ _ x.unt t x.deact _ hA))).mono ?_; rintro e w' ⟨rfl, rfl⟩)
        exact ⟨(KeepsOthers.alloc _ _).from _, kpB_alloc W _ hB.size b3.lt, ⟨v, hv.alloc _, by rw [outL_miss pre hA]; exact hrow.alloc _, by rw [outL_miss pre hA]; exact hnil⟩, ⟨b0.alloc _, b1.alloc _⟩, b3.alloc _, hB.alloc hB.size _⟩
      · gi_wp2_with (first
          | (refine ⟨trivial, ?_⟩; gi_at_call 19; refine (CallsIn.inRound l (callsIn_wide.2 (holdsAt_is true _ _ _ _ _ _ _ _ _ _ _ x.unt t x.deact _ hA))).mono ?_; rintro e w' ⟨rfl, rfl⟩)
          | (gi_at_builtin; refine wpListIn_append_own _ rfl _ _ 80 rfl w.heap.size 83 i0 zero83 15 144 Yba.underlying80 hi hz0 hz1 hz2 rfl (by decide) _ _ _ rfl ((hrow.alloc _).alloc _) ⟨W.heap.size + 1, 0, none⟩ 1 1 (uehA x).toList rfl rfl ?c1 (uehA_one x) ?c2 ?c3 ?c4 ?_))
        case c1 =>
          intro j u hu
          refine World.news_of_block (B := W.heap.size + 1) (cs := uehA x) (t := 83) (fr := (0, 0)) ?_ j u hu
          have e := blk_new (W.alloc (.cells #[.string (tmr x.sel), .bool false, .string ⟨#[]⟩, .string ⟨#[]⟩, .bool false, .string ⟨#[]⟩, .bool false, .int .u8 0, .int .u32 0, .bool false, .bool false, .int .i64 x.unt, .bool x.deact] 56)) (.cells (uehA x) 83)
          rw [World.size_alloc] at e
          exact e
        case c2 => unfold maxLen; omega
        case c3 => omega
        case c4 => have := hB.size; simp; omega
        intro v' w1 hown' hgrow _
        obtain ⟨g', cap', rfl⟩ := ownsRow_succ hown'
        obtain ⟨hv1, hv2, hr2, hk2, hb2⟩ := (hv.alloc _).appended (by decide) (hrow.alloc _) (by have := hB.size; simp; omega) (by omega) hown' hgrow
        have b0' := ((((b0.alloc _).alloc _).kept hgrow (b0.not_row (by decide) hrow)).other (B' := w.heap.size + 1 + 1) (by omega) (.slice (some ⟨g', 0, none⟩) ((outL t pre).length + 1) cap'))
        have b1' := ((((b1.alloc _).alloc _).kept hgrow (b1.not_row (by decide) hrow)).other (B' := w.heap.size + 1 + 1) (by omega) (.slice (some ⟨g', 0, none⟩) ((outL t pre).length + 1) cap'))
        have b3' := ((((b3.alloc _).alloc _).kept hgrow (b3.not_row (by decide) hrow)).other (B' := w.heap.size + 1 + 1) (by omega) (.slice (some ⟨g', 0, none⟩) ((outL t pre).length + 1) cap'))
        have hc1 := hv1.cell
        have hf1 := hv1.frozen
        have hbw := ((Below.refl w.heap.size W).alloc hB.size _).trans hb2
        have hkw := (KeepsOthers.alloc W _).trans hk2
        clear hown' hgrow hb2 hk2
        gi_wp2
        exact ⟨hkw.from _, ⟨hbw, b3'.trans b3.symm⟩, ⟨_, hv2, by rw [outL_hit pre hA, flatU_snoc]; simpa using hr2, by rw [outL_hit pre hA]; simp⟩, ⟨b0', b1'⟩, b3', hB.trans hbw⟩
    case done =>
      rintro D ys W hD rfl ⟨⟨v, hv, hrow, hnil⟩, _, _, hB⟩ hK
      have hc := hv.cell
      gi_wp2
      refine ⟨by simp, .inl ⟨_, _, rfl, run_takeDeferred hK, ?_⟩⟩
      exact ⟨_, results_tmp rfl _ _ _, v, rfl, ownsRow_putObj hrow _ hK rfl, hnil, hB.trans (belowK_b (w := w) (Nat.le_refl _) W D _ _ (by omega) hK rfl rfl)⟩
    case stop =>
      rintro D c pre W _ _ h _
      exact h.elim
  · obtain rfl : t = offAt := ht
    gi_wp2_with (refine ⟨trivial, ?_⟩; gi_at_call 18; refine (all_in (n - 1) S _).mono ?_; rintro e w' ⟨rfl, rfl⟩)
    rw [set_box _ _ _ _ _ _ (by simp)]
    have B0 : Boxed (((((w.alloc (.cells #[.string { data := #[117, 101, 49] }] 9)).alloc (.cells #[.int .i64 t] 25)).drewN nq).alloc (.cells #[.slice none 0 0] 80)).alloc (.cells #[.pointer (some ⟨S, 5, none⟩)] 92)) w.heap.size 9 (.string { data := #[117, 101, 49] }) := blk_alloc (w := (((w.alloc (.cells #[.string { data := #[117, 101, 49] }] 9)).alloc (.cells #[.int .i64 t] 25)).drewN nq).alloc (.cells #[.slice none 0 0] 80)) (blk_alloc (w := ((w.alloc (.cells #[.string { data := #[117, 101, 49] }] 9)).alloc (.cells #[.int .i64 t] 25)).drewN nq) (show ((w.alloc _).alloc _).heap[w.heap.size]? = _ from blk_alloc (blk_new w _) _) _) _
    have B1 : Boxed (((((w.alloc (.cells #[.string { data := #[117, 101, 49] }] 9)).alloc (.cells #[.int .i64 t] 25)).drewN nq).alloc (.cells #[.slice none 0 0] 80)).alloc (.cells #[.pointer (some ⟨S, 5, none⟩)] 92)) (w.heap.size + 1) 25 (.int .i64 t) := by
      have e := blk_new (w.alloc (.cells #[.string { data := #[117, 101, 49] }] 9)) (.cells #[.int .i64 t] 25)
      rw [World.size_alloc] at e
      exact blk_alloc (w := (((w.alloc (.cells #[.string { data := #[117, 101, 49] }] 9)).alloc (.cells #[.int .i64 t] 25)).drewN nq).alloc (.cells #[.slice none 0 0] 80)) (blk_alloc (w := ((w.alloc (.cells #[.string { data := #[117, 101, 49] }] 9)).alloc (.cells #[.int .i64 t] 25)).drewN nq) e _) _
    have B2 : Boxed (((((w.alloc (.cells #[.string { data := #[117, 101, 49] }] 9)).alloc (.cells #[.int .i64 t] 25)).drewN nq).alloc (.cells #[.slice none 0 0] 80)).alloc (.cells #[.pointer (some ⟨S, 5, none⟩)] 92)) (w.heap.size + 1 + 1) 80 (.slice none 0 0) := by
      have e := blk_new (((w.alloc (.cells #[.string { data := #[117, 101, 49] }] 9)).alloc (.cells #[.int .i64 t] 25)).drewN nq) (.cells #[.slice none 0 0] 80)
      rw [show (((w.alloc (.cells #[.string { data := #[117, 101, 49] }] 9)).alloc (.cells #[.int .i64 t] 25)).drewN nq).heap.size = w.heap.size + 1 + 1 from by show (((w.alloc _).alloc _)).heap.size = _; simp] at e
      exact blk_alloc e _
    have B3 : Boxed (((((w.alloc (.cells #[.string { data := #[117, 101, 49] }] 9)).alloc (.cells #[.int .i64 t] 25)).drewN nq).alloc (.cells #[.slice none 0 0] 80)).alloc (.cells #[.pointer (some ⟨S, 5, none⟩)] 92)) (w.heap.size + 1 + 1 + 1) 92 (.pointer (some ⟨S, 5, none⟩)) := by
      have e := blk_new ((((w.alloc (.cells #[.string { data := #[117, 101, 49] }] 9)).alloc (.cells #[.int .i64 t] 25)).drewN nq).alloc (.cells #[.slice none 0 0] 80)) (.cells #[.pointer (some ⟨S, 5, none⟩)] 92)
      rw [World.size_alloc, show (((w.alloc (.cells #[.string { data := #[117, 101, 49] }] 9)).alloc (.cells #[.int .i64 t] 25)).drewN nq).heap.size = w.heap.size + 1 + 1 from by show (((w.alloc _).alloc _)).heap.size = _; simp] at e
      exact e
    have hB0 : Below w.heap.size w (((((w.alloc (.cells #[.string { data := #[117, 101, 49] }] 9)).alloc (.cells #[.int .i64 t] 25)).drewN nq).alloc (.cells #[.slice none 0 0] 80)).alloc (.cells #[.pointer (some ⟨S, 5, none⟩)] 92)) := belT (belD (bel2 _ _ _) nq) (bel2 _ _ _)
    have hs0 : (((((w.alloc (.cells #[.string { data := #[117, 101, 49] }] 9)).alloc (.cells #[.int .i64 t] 25)).drewN nq).alloc (.cells #[.slice none 0 0] 80)).alloc (.cells #[.pointer (some ⟨S, 5, none⟩)] 92)).heap.size = w.heap.size + 4 := by
      rw [World.size_alloc, World.size_alloc, show (((w.alloc (.cells #[.string { data := #[117, 101, 49] }] 9)).alloc (.cells #[.int .i64 t] 25)).drewN nq).heap.size = w.heap.size + 1 + 1 from by show (((w.alloc _).alloc _)).heap.size = _; simp]
    have hL0 := hL.below hB0 hltS hltG
    generalize (((((w.alloc (.cells #[.string { data := #[117, 101, 49] }] 9)).alloc (.cells #[.int .i64 t] 25)).drewN nq).alloc (.cells #[.slice none 0 0] 80)).alloc (.cells #[.pointer (some ⟨S, 5, none⟩)] 92)) = W0 at *
    refine wpIn_rangeFunc_ownH rfl h1 (gf := 21) (lb := #[.pointer (some ⟨w.heap.size + 1 + 1 + 1, 0, none⟩)]) rfl trivial (enters_of Yba.func21 (by kernel_rfl) rfl)
      (all_stops (n - 1) (by omega) (w.heap.size + 1 + 1 + 1) w.heap.size S G len dropping started es hlen hltS hltG W0 (by omega) B3 hL0) KpB.trans (kpB_b (by omega) (by omega)) (Below.refl _ _) (fun _ => rfl)
      (fun pre W => (∃ v, Boxed W (w.heap.size + 1 + 1) 80 v ∧ W.ownsRow w.heap.size 83 15 v (outL t pre).length (flatU (outL t pre)) ∧ (v = .slice none 0 0 ↔ outL t pre = [])) ∧ ((Boxed W w.heap.size 9 (.string { data := #[117, 101, 49] }) ∧ Boxed W (w.heap.size + 1) 25 (.int .i64 t)) ∧ (Boxed W (w.heap.size + 1 + 1 + 1) 92 (.pointer (some ⟨S, 5, none⟩)) ∧ Below w.heap.size w W)))
      (fun _ _ _ => False)
      (OwnFrom.and (Own.from (holdsRow_own w.heap.size (w.heap.size + 1 + 1) 80 83 15 (fun pre => (outL t pre).length) (fun pre => flatU (outL t pre)) (fun pre v => v = .slice none 0 0 ↔ outL t pre = [])) _) (OwnFrom.and (OwnFrom.and (Own.from (boxed_own _ _ _) _) (Own.from (boxed_own _ _ _) _)) (OwnFrom.and (Own.from (boxed_own _ _ _) _) (ownFrom_below (Nat.le_refl _) (by omega)))))
      (fun _ _ _ _ _ hs _ _ => hs)
      ⟨⟨_, B2, World.ownsRow_nil _ _ _ _, by simp [outL]⟩, ⟨B0, B1⟩, B3, hB0⟩
      (fun x a' W => ∃ Bx, w.heap.size + 1 + 1 + 1 < Bx ∧ W.heap[Bx]? = some (.cells (heldA x) 58) ∧ a' = { tmps := #[.pointer (some ⟨A, 0, none⟩), .string { data := #[117, 101, 49] }, .int .i64 at_, undef, .pointer (some ⟨w.heap.size, 0, none⟩), .pointer (some ⟨w.heap.size + 1, 0, none⟩), .slice none 0 0, .pointer (some ⟨S, 0, none⟩), .bool true, .pointer (some ⟨w.heap.size + 1 + 1, 0, none⟩), .pointer (some ⟨Bx, 0, none⟩), .tuple #[.pointer (some ⟨S, 0, none⟩), .bool true], .pointer (some ⟨A, 0, none⟩), .pointer (some ⟨A, 0, none⟩), .pointer (some ⟨A, 4, none⟩), .map (some M), .string { data := #[117, 101, 49] }, .tuple #[.pointer (some ⟨S, 0, none⟩), .bool true], .pointer (some ⟨S, 0, none⟩), .bool true, .bool true, .bool false, .pointer (some ⟨S, 0, none⟩), .pointer (some ⟨S, 0, none⟩), .pointer (some ⟨S, 11, none⟩), .bool true, .pointer (some ⟨S, 0, none⟩), .pointer (some ⟨S, 0, none⟩), .pointer (some ⟨S, 12, none⟩), .int .i64 t, .pointer (some ⟨S, 0, none⟩), .pointer (some ⟨S, 0, none⟩), .pointer (some ⟨S, 5, none⟩), .func (.func 21) #[] #[.pointer (some ⟨w.heap.size + 1 + 1 + 1, 0, none⟩)], .agg (heldA x), undef, undef, undef, undef, undef, undef, undef, undef, undef, undef, undef, undef, undef, undef], defers := [] })
      (fun x a' _ X Y row hs hg hr => by obtain ⟨Bx, h1, h2, h3⟩ := hs; exact ⟨Bx, h1, (hg.block Bx (blk_lt h2) (fun e => by obtain ⟨o, ho, hc⟩ := (hr Bx e.symm).2; rw [h2] at ho; cases ho; cases hc)).trans h2, h3⟩)
      ?assign ?body ?done ?stop
    case assign =>
      rintro l pre x W K ⟨⟨v, hv, hrow, hnil⟩, ⟨b0, b1⟩, b3, hB⟩ hK
      simp only [heldA] at hK ⊢
      gi_wp2
      exact hK _ _ ((KeepsOthers.alloc _ _).from _) (kpB_alloc W _ hB.size b3.lt) ⟨⟨v, hv.alloc _, hrow.alloc _, hnil⟩, ⟨b0.alloc _, b1.alloc _⟩, b3.alloc _, hB.alloc hB.size _⟩ ⟨W.heap.size, b3.lt, blk_new W _, rfl⟩
    case body =>
      rintro l pre x a' W hl ⟨r, hr⟩ ⟨⟨v, hv, hrow, hnil⟩, ⟨b0, b1⟩, b3, hB⟩ ⟨Bx, hBx, bX, rfl⟩ hlt
      have cv := hv.cell
      have c0 := b0.cell
      have c1 := b1.cell
      have cX := blk_cell bX
      have nX := blk_lt bX
      have nv := hv.lt
      have n0 := b0.lt
      have n1 := b1.lt
      have hpl := outL_le t pre
      have h1' : 1 ≤ n - 1 - 1 := by omega
      simp only [heldA] at cX ⊢
      cases hA : hAt x.deact t x.unt
      · gi_wp2_with (refine ⟨trivial, ?_⟩; gi_at_call 19; refine (CallsIn.inRound l (callsIn_wide.2 (holdsAt_is false _ _ _ _ _ _ _ _ _ _ _ x.unt t x.deact _ hA))).mono ?_; rintro e w' ⟨rfl, rfl⟩)
        exact ⟨(KeepsOthers.alloc _ _).from _, kpB_alloc W _ hB.size b3.lt, ⟨v, hv.alloc _, by rw [outL_miss pre hA]; exact hrow.alloc _, by rw [outL_miss pre hA]; exact hnil⟩, ⟨b0.alloc _, b1.alloc _⟩, b3.alloc _, hB.alloc hB.size _⟩
      · gi_wp2_with (first
          | (refine ⟨trivial, ?_⟩; gi_at_call 19; refine (CallsIn.inRound l (callsIn_wide.2 (holdsAt_is true _ _ _ _ _ _ _ _ _ _ _ x.unt t x.deact _ hA))).mono ?_; rintro e w' ⟨rfl, rfl⟩)
          | (gi_at_builtin; refine wpListIn_append_own _ rfl _ _ 80 rfl w.heap.size 83 i0 zero83 15 144 Yba.underlying80 hi hz0 hz1 hz2 rfl (by decide) _ _ _ rfl ((hrow.alloc _).alloc _) ⟨W.heap.size + 1, 0, none⟩ 1 1 (uehA x).toList rfl rfl ?c1 (uehA_one x) ?c2 ?c3 ?c4 ?_))
        case c1 =>
          intro j u hu
          refine World.news_of_block (B := W.heap.size + 1) (cs := uehA x) (t := 83) (fr := (0, 0)) ?_ j u hu
          have e := blk_new (W.alloc (.cells #[.string (tmr x.sel), .bool false, .string ⟨#[]⟩, .string ⟨#[]⟩, .bool false, .string ⟨#[]⟩, .bool false, .int .u8 0, .int .u32 0, .bool false, .bool false, .int .i64 x.unt, .bool x.deact] 56)) (.cells (uehA x) 83)
          rw [World.size_alloc] at e
          exact e
        case c2 => unfold maxLen; omega
        case c3 => omega
        case c4 => have := hB.size; simp; omega
        intro v' w1 hown' hgrow _
        obtain ⟨g', cap', rfl⟩ := ownsRow_succ hown'
        obtain ⟨hv1, hv2, hr2, hk2, hb2⟩ := (hv.alloc _).appended (by decide) (hrow.alloc _) (by have := hB.size; simp; omega) (by omega) hown' hgrow
        have b0' := ((((b0.alloc _).alloc _).kept hgrow (b0.not_row (by decide) hrow)).other (B' := w.heap.size + 1 + 1) (by omega) (.slice (some ⟨g', 0, none⟩) ((outL t pre).length + 1) cap'))
        have b1' := ((((b1.alloc _).alloc _).kept hgrow (b1.not_row (by decide) hrow)).other (B' := w.heap.size + 1 + 1) (by omega) (.slice (some ⟨g', 0, none⟩) ((outL t pre).length + 1) cap'))
        have b3' := ((((b3.alloc _).alloc _).kept hgrow (b3.not_row (by decide) hrow)).other (B' := w.heap.size + 1 + 1) (by omega) (.slice (some ⟨g', 0, none⟩) ((outL t pre).length + 1) cap'))
        have hc1 := hv1.cell
        have hf1 := hv1.frozen
        have hbw := ((Below.refl w.heap.size W).alloc hB.size _).trans hb2
        have hkw := (KeepsOthers.alloc W _).trans hk2
        clear hown' hgrow hb2 hk2
        gi_wp2
        exact ⟨hkw.from _, ⟨hbw, b3'.trans b3.symm⟩, ⟨_, hv2, by rw [outL_hit pre hA, flatU_snoc]; simpa using hr2, by rw [outL_hit pre hA]; simp⟩, ⟨b0', b1'⟩, b3', hB.trans hbw⟩
    case done =>
      rintro D ys W hD rfl ⟨⟨v, hv, hrow, hnil⟩, _, _, hB⟩ hK
      have hc := hv.cell
      gi_wp2
      refine ⟨by simp, .inl ⟨_, _, rfl, run_takeDeferred hK, ?_⟩⟩
      exact ⟨_, results_tmp rfl _ _ _, v, rfl, ownsRow_putObj hrow _ hK rfl, hnil, hB.trans (belowK_b (w := w) (Nat.le_refl _) W D _ _ (by omega) hK rfl rfl)⟩
    case stop =>
      rintro D c pre W _ _ h _
      exact h.elim
end Go.Proofs.Ybulkszs
