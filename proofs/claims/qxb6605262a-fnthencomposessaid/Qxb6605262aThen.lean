import Derived.Test.Qxb6605262aRepl
namespace Go.Proofs.Qxb6605262a
open Go.RowKit
set_option linter.unusedVariables false

/-- The last value that the first k assignments give to a column. -/
def lastV (C : Nat → Asg) : Nat → Nat → Option Val
  | 0, _ => none
  | k + 1, col => if (C k).c = (col : Int) then some (C k).v else lastV C k col

def valF (C : Nat → Asg) (k : Nat) : Nat → Val := fun col => (lastV C k col).getD nul
def setF (C : Nat → Asg) (k : Nat) : Nat → Bool := fun col => (lastV C k col).isSome

theorem valF_step {C : Nat → Asg} {k j : Nat} (h : (C k).c = (j : Int)) (i : Nat) : valF C (k + 1) i = if i = j then (C k).v else valF C k i := by
  unfold valF
  rw [lastV, h]
  by_cases e : i = j
  · subst e; simp
  · rw [if_neg e, if_neg (by omega)]
theorem setF_step {C : Nat → Asg} {k j : Nat} (h : (C k).c = (j : Int)) (i : Nat) : setF C (k + 1) i = if i = j then true else setF C k i := by
  unfold setF
  rw [lastV, h]
  by_cases e : i = j
  · subst e; simp
  · rw [if_neg e, if_neg (by omega)]

/-- d's list, then next's. -/
def cat (A : Nat → Asg) (n : Nat) (B : Nat → Asg) : Nat → Asg := fun i => if i < n then A i else B (i - n)

theorem whole_below (e r : Bool) (a : Option Addr) (n c : Nat) (w : World) :
    Calls Try.prog 40 #[.agg #[.bool e, .bool r, .slice a n c]] w fun e' w' => e' = .returned (.bool (e || r)) ∧ Below w.heap.size w w' :=
  (whole_any e r a n c w).mono fun e' w' h => ⟨h.1, by rw [h.2]; exact (Below.refl _ _).alloc (Nat.le_refl _) _⟩

/-- The boxes of the two deltas and the result's cell. -/
structure Boxes (w wr : World) (e1 r1 : Bool) (v1 : Value) (e2 r2 : Bool) (v2 : Value) : Prop where
  below : Below w.heap.size w wr
  b1 : wr.rowIs w.heap.size 42 3 (dlt e1 r1 v1)
  b2 : wr.rowIs (w.heap.size + 1) 42 3 (dlt e2 r2 v2)
  res : wr.rowIs (w.heap.size + 1 + 1) 42 3 (dlt false false (.slice none 0 0))

theorem boxes_start (w : World) (e1 r1 : Bool) (v1 : Value) (e2 r2 : Bool) (v2 : Value) :
    Boxes w (((w.alloc (.cells #[.bool e1, .bool r1, v1] 42)).alloc (.cells #[.bool e2, .bool r2, v2] 42)).alloc (.cells #[.bool false, .bool false, .slice none 0 0] 42)) e1 r1 v1 e2 r2 v2 := by
  have h1 := row_one w (.bool e1) (.bool r1) v1 42 (dlt e1 r1 v1) rfl rfl rfl
  have h2 := row_one (w.alloc (.cells #[.bool e1, .bool r1, v1] 42)) (.bool e2) (.bool r2) v2 42 (dlt e2 r2 v2) rfl rfl rfl
  have h3 := row_one ((w.alloc (.cells #[.bool e1, .bool r1, v1] 42)).alloc (.cells #[.bool e2, .bool r2, v2] 42)) (.bool false) (.bool false) (.slice none 0 0) 42 (dlt false false (.slice none 0 0)) rfl rfl rfl
  simp only [World.size_alloc] at h2 h3
  exact ⟨(((Below.refl _ _).alloc (Nat.le_refl _) _).alloc (by simp) _).alloc (by simp; omega) _, (h1.alloc _).alloc _, h2.alloc _, h3⟩

theorem Boxes.later {w wr w' : World} {e1 r1 : Bool} {v1 : Value} {e2 r2 : Bool} {v2 : Value} (h : Boxes w wr e1 r1 v1 e2 r2 v2) (hb : Below wr.heap.size wr w') : Boxes w w' e1 r1 v1 e2 r2 v2 :=
  ⟨h.below.trans (hb.mono h.below.size), rowIs_later h.b1 hb, rowIs_later h.b2 hb, rowIs_later h.res hb⟩
theorem Boxes.set {w wr : World} {e1 r1 : Bool} {v1 : Value} {e2 r2 : Bool} {v2 : Value} (h : Boxes w wr e1 r1 v1 e2 r2 v2) (y : Addr) (v : Value) (hy : w.heap.size + 3 ≤ y.block) : Boxes w (wr.setCell y v) e1 r1 v1 e2 r2 v2 :=
  ⟨h.below.setCell (by omega) _, h.b1.setOther (by omega) _, h.b2.setOther (by omega) _, h.res.setOther (by omega) _⟩
theorem Boxes.alloc {w wr : World} {e1 r1 : Bool} {v1 : Value} {e2 r2 : Bool} {v2 : Value} (h : Boxes w wr e1 r1 v1 e2 r2 v2) (o : Obj) : Boxes w (wr.alloc o) e1 r1 v1 e2 r2 v2 :=
  ⟨h.below.alloc h.below.size _, h.b1.alloc _, h.b2.alloc _, h.res.alloc _⟩
theorem Boxes.drew {w wr : World} {e1 r1 : Bool} {v1 : Value} {e2 r2 : Bool} {v2 : Value} (h : Boxes w wr e1 r1 v1 e2 r2 v2) : Boxes w wr.drew e1 r1 v1 e2 r2 v2 :=
  ⟨h.below.drew, h.b1.drew, h.b2.drew, h.res.drew⟩

/-- .. and the two rows by column. -/
structure ByCol (w wr : World) (e1 r1 : Bool) (v1 : Value) (e2 r2 : Bool) (v2 : Value) (vb m : Nat) (F : Nat → Val) (S : Nat → Bool) : Prop where
  box : Boxes w wr e1 r1 v1 e2 r2 v2
  vals : wr.rowIs vb 67 (m * 3) (trip F)
  set : wr.rowIs (vb + 1) 4 m (fun i => .bool (S i))
  lo : w.heap.size + 3 ≤ vb

theorem byCol_start {w wr : World} {e1 r1 : Bool} {v1 : Value} {e2 r2 : Bool} {v2 : Value} (h : Boxes w wr e1 r1 v1 e2 r2 v2) (m : Nat) :
    ByCol w ((wr.alloc (.cells (madeCells #[.int .u8 0, .int .u64 0, .string ByteArray.empty] (m * 3)) 67)).alloc (.cells (madeCells #[.bool false] m) 4)) e1 r1 v1 e2 r2 v2 wr.heap.size m (fun _ => nul) (fun _ => false) := by
  have h1 := (rowT_made wr m 67).alloc (.cells (madeCells #[.bool false] m) 4)
  have h2 := World.rowIs_made (wr.alloc (.cells (madeCells #[.int .u8 0, .int .u64 0, .string ByteArray.empty] (m * 3)) 67)) (.bool false) m 4
  rw [World.size_alloc] at h2
  have := h.res.lt
  exact ⟨(h.alloc _).alloc _, h1, h2, by omega⟩

theorem byCol_alloc {w wr : World} {e1 r1 : Bool} {v1 : Value} {e2 r2 : Bool} {v2 : Value} {vb m : Nat} {F : Nat → Val} {S : Nat → Bool} (h : ByCol w wr e1 r1 v1 e2 r2 v2 vb m F S) (o : Obj) : ByCol w (wr.alloc o) e1 r1 v1 e2 r2 v2 vb m F S :=
  ⟨h.box.alloc _, h.vals.alloc _, h.set.alloc _, h.lo⟩

theorem boxes_put3 {w wr : World} {e1 r1 : Bool} {v1 : Value} {e2 r2 : Bool} {v2 : Value} (h : Boxes w wr e1 r1 v1 e2 r2 v2) {b : Nat} (hb : w.heap.size + 3 ≤ b) (o : Nat) (x : Val) : Boxes w (put3 wr b o x) e1 r1 v1 e2 r2 v2 :=
  ((h.set _ _ hb).set _ _ hb).set _ _ hb

theorem byCol_put {w wr : World} {e1 r1 : Bool} {v1 : Value} {e2 r2 : Bool} {v2 : Value} {vb m : Nat} {C : Nat → Asg} {k : Nat} (h : ByCol w wr e1 r1 v1 e2 r2 v2 vb m (valF C k) (setF C k)) {j : Nat} (hj : (C k).c = (j : Int)) :
    ByCol w ((put3 wr vb (j * 3) (C k).v).setCell ⟨vb + 1, j, none⟩ (.bool true)).drew e1 r1 v1 e2 r2 v2 vb m (valF C (k + 1)) (setF C (k + 1)) := by
  have hl := h.lo
  refine ⟨((boxes_put3 h.box hl _ _).set _ _ (by show w.heap.size + 3 ≤ vb + 1; omega)).drew, ((rowT_put h.vals j (C k).v (fun i _ => valF_step hj i)).setOther (by show vb ≠ vb + 1; omega) _).drew, (((row_put3_other h.set (by omega) _ _).set j _).congr (fun i _ => ?_)).drew, hl⟩
  rw [setF_step hj i]
  by_cases e : i = j
  · rw [if_pos e, if_pos e]
  · rw [if_neg e, if_neg e]

set_option maxHeartbeats 800000 in
set_option maxRecDepth 100000 in
/-- Next is whole: next itself. -/
theorem then_whole (e1 r1 : Bool) (a1 : Option Addr) (n1 c1 : Nat) (e2 r2 : Bool) (a2 : Option Addr) (n2 c2 : Nat) (nc : Int) (w : World) (hw : (e2 || r2) = true) :
    Calls Try.prog 32 #[.agg #[.bool e1, .bool r1, .slice a1 n1 c1], .agg #[.bool e2, .bool r2, .slice a2 n2 c2], .int .i64 nc] w fun e' w' => e' = .returned (.agg #[.bool e2, .bool r2, .slice a2 n2 c2]) ∧ Below w.heap.size w w' := by
  go_enter Try.func32, Try.ntmps32
  go_wp2_with fail
  refine (whole_below e2 r2 a2 n2 c2 _).mono ?_
  rintro e' w1 ⟨rfl, hb⟩
  rw [hw]
  have hB := (boxes_start w e1 r1 (.slice a1 n1 c1) e2 r2 (.slice a2 n2 c2)).later hb
  have b0 : w1.cell? ⟨w.heap.size + 1, 0, none⟩ = some (.bool e2) := hB.b2.cell (i := 0) (by omega)
  have b1 : w1.cell? ⟨w.heap.size + 1, 1, none⟩ = some (.bool r2) := hB.b2.cell (i := 1) (by omega)
  have b2 : w1.cell? ⟨w.heap.size + 1, 2, none⟩ = some (.slice a2 n2 c2) := hB.b2.cell (i := 2) (by omega)
  have r0 : w1.cell? ⟨w.heap.size + 1 + 1, 0, none⟩ = some (.bool false) := hB.res.cell (i := 0) (by omega)
  have r1' : w1.cell? ⟨w.heap.size + 1 + 1, 1, none⟩ = some (.bool false) := hB.res.cell (i := 1) (by omega)
  have r2' : w1.cell? ⟨w.heap.size + 1 + 1, 2, none⟩ = some (.slice none 0 0) := hB.res.cell (i := 2) (by omega)
  have f0 := hB.res.frozen 0
  have f1 := hB.res.frozen 1
  have f2 := hB.res.frozen 2
  have hbl := hB.below
  clear hB hb
  go_wp2
  refine bodyPost_ret (v := .agg #[.bool e2, .bool r2, .slice a2 n2 c2]) (by simp [results, Try.results32, go_sem, r0, r1', r2']) rfl ⟨rfl, ?_⟩
  exact ((hbl.setCell (by show w.heap.size ≤ w.heap.size + 1 + 1; omega) _).setCell (by show w.heap.size ≤ w.heap.size + 1 + 1; omega) _).setCell (by show w.heap.size ≤ w.heap.size + 1 + 1; omega) _

theorem Boxes.later' {w wr w' : World} {e1 r1 : Bool} {v1 : Value} {e2 r2 : Bool} {v2 : Value} (h : Boxes w wr e1 r1 v1 e2 r2 v2) (hb : Below wr.heap.size wr w') : Boxes w w' e1 r1 v1 e2 r2 v2 := h.later hb

theorem own_shape {w : World} {base n : Nat} {e : TypeId} {size : Nat} {v : Value} {xs : List Value} (h : w.ownsRow base e size v (n + 1) xs) : ∃ g c, v = .slice (some ⟨g, 0, none⟩) (n + 1) c := by
  rcases h.2 with ⟨_, h0⟩ | ⟨g, cap, cur, hv, _⟩
  · omega
  · exact ⟨g, cap, hv⟩

theorem own_flat {w : World} {base : Nat} {e : TypeId} {v : Value} {L : List Asg} {x : Asg} (h : w.ownsRow base e 4 v (L.length + 1) (flat L ++ flat [x])) : w.ownsRow base e 4 v (L ++ [x]).length (flat (L ++ [x])) := by
  rw [flat_append, List.length_append]; exact h

/-! ### The loop that gathers what is set -/

def keepS (S : Nat → Bool) (F : Nat → Val) (k : Nat) : List Asg := (List.range k).filterMap fun i => if S i then some ⟨(i : Int), F i⟩ else none

theorem keepS_no {S : Nat → Bool} {F : Nat → Val} {k : Nat} (h : S k = false) : keepS S F (k + 1) = keepS S F k := by
  unfold keepS
  rw [List.range_succ, List.filterMap_append]
  simp [h]
theorem keepS_yes {S : Nat → Bool} {F : Nat → Val} {k : Nat} (h : S k = true) : keepS S F (k + 1) = keepS S F k ++ [⟨(k : Int), F k⟩] := by
  unfold keepS
  rw [List.range_succ, List.filterMap_append]
  simp [h]
theorem keepS_len (S : Nat → Bool) (F : Nat → Val) (k : Nat) : (keepS S F k).length ≤ k := by
  unfold keepS
  have := List.length_filterMap_le (fun i => if S i then some (⟨(i : Int), F i⟩ : Asg) else none) (List.range k)
  simpa using this

/-- W: the world ahead of 'var out delta'. -/
structure Outs (W wr : World) (v : Value) (L : List Asg) : Prop where
  below : Below W.heap.size W wr
  size : W.heap.size + 1 ≤ wr.heap.size
  box : wr.rowIs W.heap.size 42 3 (dlt false false v)
  own : wr.ownsRow (W.heap.size + 1) 81 4 v L.length (flat L)

theorem outs_start (W : World) : Outs W (W.alloc (.cells #[.bool false, .bool false, .slice none 0 0] 42)) (.slice none 0 0) [] :=
  ⟨(Below.refl _ _).alloc (Nat.le_refl _) _, by simp, row_one W (.bool false) (.bool false) (.slice none 0 0) 42 (dlt false false (.slice none 0 0)) rfl rfl rfl, World.ownsRow_nil _ _ _ _⟩

theorem outs_alloc {W wr : World} {v : Value} {L : List Asg} (h : Outs W wr v L) (o : Obj) : Outs W (wr.alloc o) v L :=
  ⟨h.below.alloc h.below.size _, by have := h.size; simp; omega, h.box.alloc _, h.own.alloc _⟩

theorem outs_app {W wr w1 : World} {v v' : Value} {L M : List Asg} (h : Outs W wr v L) (hg : wr.grownBy w1 v.ownBlock) (ho : w1.ownsRow (W.heap.size + 1) 81 4 v' M.length (flat M)) :
    Outs W (w1.setCell ⟨W.heap.size, 2, none⟩ v') v' M := by
  have hs := h.size
  have hbk : ∀ k, k < W.heap.size + 1 → w1.heap[k]? = wr.heap[k]? := fun k hk => hg.block k (by omega) (fun e => by have := (h.own.lt k e.symm).1; omega)
  have hb1 : Below W.heap.size W w1 := h.below.trans ⟨hg.os, hg.tape, hg.output, hg.size, fun k hk => hbk k (by omega)⟩
  refine ⟨hb1.setCell (Nat.le_refl _) _, by have := hg.size; simp; omega, ((h.box.of_block (hbk _ (by omega))).set 2 _).congr (fun i hi => ?_), ownsRow_setCell_below ho (by show W.heap.size < W.heap.size + 1; omega) _⟩
  rcases (show i = 0 ∨ i = 1 ∨ i = 2 by omega) with rfl | rfl | rfl <;> simp [dlt]

theorem outs_box {W wr w1 : World} {v : Value} {L : List Asg} (h : Outs W wr v L) (hg : wr.grownBy w1 v.ownBlock) : w1.rowIs W.heap.size 42 3 (dlt false false v) :=
  h.box.of_block (hg.block _ (by have := h.size; omega) (fun e => by have := (h.own.lt _ e.symm).1; omega))
theorem outs_drew {W wr : World} {v : Value} {L : List Asg} (h : Outs W wr v L) : Outs W wr.drew v L := ⟨h.below.drew, h.size, h.box.drew, h.own.drew⟩

set_option maxHeartbeats 1600000 in
set_option maxRecDepth 100000 in
theorem then_any (d1w : Bool) (e1 r1 : Bool) (hdw : (e1 || r1) = d1w) (a1 : Option Addr) (n1 c1 : Nat) (A1 : Nat → Asg) (a2 : Option Addr) (n2 c2 : Nat) (A2 : Nat → Asg) (m : Nat) (w : World) (h1 : SlA w a1 n1 c1 A1) (h2 : SlA w a2 n2 c2 A2) (hm : m ≤ 65536) (hn1 : n1 ≤ 1048576) (hn2 : n2 ≤ 1048576)
    (hc1 : colsB A1 n1 m) (hc2 : colsB A2 n2 m) :
    Calls Try.prog 32 #[.agg #[.bool e1, .bool r1, .slice a1 n1 c1], .agg #[.bool false, .bool false, .slice a2 n2 c2], .int .i64 (m : Nat)] w fun e' w' => ∃ a' c' L, e' = .returned (.agg #[.bool false, .bool d1w, .slice a' (List.length L) c']) ∧ SlA w' a' L.length c' (fun i => L.getD i nulA) ∧ Below w.heap.size w w' ∧ (∀ x, a' = some x → w.heap.size ≤ x.block) ∧
      L = (if d1w then keepN (valF (cat A1 n1 A2) (n1 + n2)) m else keepS (setF (cat A1 n1 A2) (n1 + n2)) (valF (cat A1 n1 A2) (n1 + n2)) m) := by
  have hmk1 := run_make_struct (P := Try.prog) 64 67 _ 3 32 Try.underlying64 Try.info67 .i64 .i64 m (by omega) (by omega)
  simp only [Value.cells] at hmk1
  have hmk2 := run_make_row' (P := Try.prog) 79 4 (.bool false) 1 Try.underlying79 Try.info4 rfl .i64 .i64 m (by omega) (by omega)
  obtain ⟨p1, o1, ha1, hA1⟩ := h1.open
  obtain ⟨p2, o2, ha2, hA2⟩ := h2.open
  clear h1 h2
  go_enter Try.func32, Try.ntmps32
  go_wp2_with fail
  refine (whole_below false false a2 n2 c2 _).mono ?_
  rintro e' w1 ⟨rfl, hb⟩
  have hB := (boxes_start w e1 r1 (.slice a1 n1 c1) false false (.slice a2 n2 c2)).later hb
  have hb1 : w1.cell? ⟨w.heap.size, 2, none⟩ = some (.slice a1 n1 c1) := hB.b1.cell (i := 2) (by omega)
  have hC := byCol_start hB m
  have hb1' : ∀ o o', ((w1.alloc o).alloc o').cell? ⟨w.heap.size, 2, none⟩ = some (.slice a1 n1 c1) := fun o o' => ((hB.alloc o).alloc o').b1.cell (i := 2) (by omega)
  clear hB hb hb1
  go_wp2
  clear hmk1 hmk2 hb1'
  obtain ⟨C, hCd⟩ : ∃ C, C = cat A1 n1 A2 := ⟨_, rfl⟩
  have HC : Hid (C = cat A1 n1 A2) := hCd
  clear hCd
  go_loopg [25] n1 (fun gh i wr => ∃ k : Nat, k ≤ n1 ∧ gh = n1 - k ∧ i = .int .i64 (k : Nat) ∧ ByCol w wr e1 r1 (.slice a1 n1 c1) false false (.slice a2 n2 c2) w1.heap.size m (valF C k) (setF C k))
  case atStart => exact ⟨0, Nat.zero_le _, rfl, rfl, hC⟩
  case round =>
    clear hC
    obtain ⟨k, hk, rfl, rfl, hC⟩ := hrel
    by_cases hlt : k < n1
    · obtain rfl := ha1 (by omega)
      have hkz : (k : Int) < (n1 : Int) := by omega
      have eC : C k = A1 k := by rw [HC.out]; unfold cat; rw [if_pos hlt]
      obtain ⟨j, hj⟩ : ∃ j : Nat, (A1 k).c = (j : Int) := ⟨(A1 k).c.toNat, by have := hc1 k hlt; omega⟩
      have hjm : j < m := by have := hc1 k hlt; omega
      have hjz : (j : Int) < (m : Int) := by omega
      have HJ : Hid ((C k).c = (j : Int)) := by show (C k).c = _; rw [eC]; exact hj
      obtain ⟨x0, x1, x2, x3⟩ := (hA1 k hlt).later hC.box.below
      rw [hj] at x0
      rw [← eC] at x1 x2 x3
      have hC2 := fun o => byCol_alloc hC o
      have d := fun o => three_of_row (hC2 o).vals hjm
      have d0 := fun o => (d o).c0
      have d1 := fun o => (d o).c1
      have d2 := fun o => (d o).c2
      have f0 := fun o => (hC2 o).vals.frozen (j * 3)
      have f1 := fun o => (hC2 o).vals.frozen (j * 3 + 1)
      have f2 := fun o => (hC2 o).vals.frozen (j * 3 + 2)
      have s0 : ∀ o, (wr.alloc o).cell? ⟨w1.heap.size + 1, j, none⟩ = some (.bool (setF C k j)) := fun o => (hC2 o).set.cell hjm
      have s1 := fun o => (hC2 o).set.frozen j
      have hsz : w1.heap.size + 1 < wr.heap.size := hC.set.lt
      clear d eC hj
      go_wp2_with fail
      go_region
      all_goals go_wp2_with fail
      all_goals
        go_roundg (n1 - (k + 1))
        case measure => go_light; omega
        case rel => go_light; exact ⟨k + 1, by omega, rfl, by go_num, byCol_put (hC2 _) HJ.out⟩
    · have e3 : k = n1 := by omega
      subst e3
      have y2 : wr.cell? ⟨w.heap.size + 1, 2, none⟩ = some (.slice a2 n2 c2) := hC.box.b2.cell (i := 2) (by omega)
      clear hA1 ha1
      go_wp2
      go_loopg [43] n2 (fun gh i wr => ∃ k2 : Nat, k2 ≤ n2 ∧ gh = n2 - k2 ∧ i = .int .i64 (k2 : Nat) ∧ ByCol w wr e1 r1 (.slice a1 k c1) false false (.slice a2 n2 c2) w1.heap.size m (valF C (k + k2)) (setF C (k + k2)))
      case atStart => exact ⟨0, Nat.zero_le _, rfl, rfl, hC⟩
      case round =>
        clear hC y2
        obtain ⟨k2, hk2, rfl, rfl, hC⟩ := hrel
        by_cases hlt2 : k2 < n2
        · obtain rfl := ha2 (by omega)
          have hkz : (k2 : Int) < (n2 : Int) := by omega
          have eC : C (k + k2) = A2 k2 := by rw [HC.out]; unfold cat; rw [if_neg (by omega), Nat.add_sub_cancel_left]
          obtain ⟨j, hj⟩ : ∃ j : Nat, (A2 k2).c = (j : Int) := ⟨(A2 k2).c.toNat, by have := hc2 k2 hlt2; omega⟩
          have hjm : j < m := by have := hc2 k2 hlt2; omega
          have hjz : (j : Int) < (m : Int) := by omega
          have HJ : Hid ((C (k + k2)).c = (j : Int)) := by show (C (k + k2)).c = _; rw [eC]; exact hj
          obtain ⟨x0, x1, x2, x3⟩ := (hA2 k2 hlt2).later hC.box.below
          rw [hj] at x0
          rw [← eC] at x1 x2 x3
          have hC2 := fun o => byCol_alloc hC o
          have d := fun o => three_of_row (hC2 o).vals hjm
          have d0 := fun o => (d o).c0
          have d1 := fun o => (d o).c1
          have d2 := fun o => (d o).c2
          have f0 := fun o => (hC2 o).vals.frozen (j * 3)
          have f1 := fun o => (hC2 o).vals.frozen (j * 3 + 1)
          have f2 := fun o => (hC2 o).vals.frozen (j * 3 + 2)
          have s0 : ∀ o, (wr.alloc o).cell? ⟨w1.heap.size + 1, j, none⟩ = some (.bool (setF C (k + k2) j)) := fun o => (hC2 o).set.cell hjm
          have s1 := fun o => (hC2 o).set.frozen j
          have hsz : w1.heap.size + 1 < wr.heap.size := hC.set.lt
          clear d eC hj
          go_wp2_with fail
          go_region
          all_goals go_wp2_with fail
          all_goals
            go_roundg (n2 - (k2 + 1))
            case measure => go_light; omega
            case rel => go_light; exact ⟨k2 + 1, by omega, rfl, by go_num, byCol_put (hC2 _) HJ.out⟩
        · have e4 : k2 = n2 := by omega
          subst e4
          clear hA2 ha2
          have z0 : wr.cell? ⟨w.heap.size, 0, none⟩ = some (.bool e1) := hC.box.b1.cell (i := 0) (by omega)
          have z1 : wr.cell? ⟨w.heap.size, 1, none⟩ = some (.bool r1) := hC.box.b1.cell (i := 1) (by omega)
          have z2 : wr.cell? ⟨w.heap.size, 2, none⟩ = some (.slice a1 k c1) := hC.box.b1.cell (i := 2) (by omega)
          go_wp2_with fail
          refine (whole_below e1 r1 a1 k c1 _).mono ?_
          rintro e' w2 ⟨rfl, hb2⟩
          have hbx := hC.box.later hb2
          have hvr := rowIs_later hC.vals hb2
          have hsr := rowIs_later hC.set hb2
          have hlo := hC.lo
          clear hC hb2 z0 z1 z2
          rw [hdw]
          cases d1w
          · obtain ⟨i0, hi, hz0, hz1, hz2⟩ := info_parts Try.info81
            go_wp2
            go_loopg [63] m (fun gh i wx => ∃ (k3 : Nat) (v : Value), k3 ≤ m ∧ gh = m - k3 ∧ i = .int .i64 (k3 : Nat) ∧ Outs w2 wx v (keepS (setF C (k + k2)) (valF C (k + k2)) k3))
            case atStart => exact ⟨0, _, Nat.zero_le _, rfl, rfl, outs_start w2⟩
            case round =>
              obtain ⟨k3, v, hk3, rfl, rfl, hO⟩ := hrel
              by_cases hlt3 : k3 < m
              · have hkz : (k3 : Int) < (m : Int) := by omega
                have hlen := keepS_len (setF C (k + k2)) (valF C (k + k2)) k3
                have hset : wr.cell? ⟨w1.heap.size + 1, k3, none⟩ = some (.bool (setF C (k + k2) k3)) := cell_later hO.below (hsr.cell hlt3)
                have hsz := hO.size
                cases hs : setF C (k + k2) k3
                · rw [hs] at hset
                  have HK : Hid (keepS (setF C (k + k2)) (valF C (k + k2)) (k3 + 1) = keepS (setF C (k + k2)) (valF C (k + k2)) k3) := keepS_no hs
                  clear hs
                  go_wp2
                  go_roundg (m - (k3 + 1))
                  case measure => go_light; omega
                  case rel => go_light; exact ⟨k3 + 1, v, by omega, rfl, by go_num, by rw [HK.out]; exact hO⟩
                · rw [hs] at hset
                  have HK : Hid (keepS (setF C (k + k2)) (valF C (k + k2)) (k3 + 1) = keepS (setF C (k + k2)) (valF C (k + k2)) k3 ++ [⟨(k3 : Int), valF C (k + k2) k3⟩]) := keepS_yes hs
                  obtain ⟨x0, x1, x2⟩ := (three_of_row hvr hlt3).later hO.below
                  obtain ⟨xv, hxv⟩ : ∃ xv, xv = valF C (k + k2) k3 := ⟨_, rfl⟩
                  rw [← hxv] at x0 x1 x2 HK
                  have y2 : wr.cell? ⟨w2.heap.size, 2, none⟩ = some v := hO.box.cell (i := 2) (by omega)
                  have y2' : ∀ o, (wr.alloc o).cell? ⟨w2.heap.size, 2, none⟩ = some v := fun o => (outs_alloc hO o).box.cell (i := 2) (by omega)
                  obtain ⟨L0, hL0⟩ : ∃ L0, L0 = keepS (setF C (k + k2)) (valF C (k + k2)) k3 := ⟨_, rfl⟩
                  rw [← hL0] at hO HK hlen
                  clear hs hxv hL0 hbx
                  go_wp2_with fail
                  go_region_law (refine step_append_own rfl (.tmp 71) (.tmp 78) 40 rfl (w2.heap.size + 1) 81 i0 _ 4 40 Try.underlying40 hi hz0 hz1 hz2 rfl (by decide) v L0.length (flat L0) (by simp [Act.eval]) (by exact (hO.own.alloc _).drew) ⟨wr.heap.size, 0, none⟩ 1 1 (flat [⟨(k3 : Int), xv⟩]) (by simp [Act.eval]) rfl (by exact four_new wr ⟨(k3 : Int), xv⟩ 81) (oneCell_flat _) (by unfold maxLen; omega) (by omega) (by simp; omega) ?_; intro v' w3 ho hg; obtain ⟨g, c', hv'⟩ := own_shape ho; subst hv'; have z2 := (outs_box (outs_drew (outs_alloc hO _)) hg).cell (i := 2) (by omega); have z3 := (outs_box (outs_drew (outs_alloc hO _)) hg).frozen 2; have hOn := outs_app (outs_drew (outs_alloc hO _)) hg (own_flat ho); clear ho hg; simp only [dlt] at z2)
                  all_goals go_wp2_with fail
                  all_goals
                    go_roundg (m - (k3 + 1))
                    case measure => go_light; omega
                    case rel =>
                      go_light
                      refine ⟨k3 + 1, .slice (some ⟨g, 0, none⟩) (L0.length + 1) c', by omega, rfl, by go_num, ?_⟩
                      rw [HK.out]
                      assumption
              · have e5 : k3 = m := by omega
                subst e5
                obtain ⟨a', c', hv', hS', hx', _⟩ := sla_of hO.own
                subst hv'
                have hbx3 := hbx.later' hO.below
                have y0 : wr.cell? ⟨w2.heap.size, 0, none⟩ = some (.bool false) := hO.box.cell (i := 0) (by omega)
                have y1 : wr.cell? ⟨w2.heap.size, 1, none⟩ = some (.bool false) := hO.box.cell (i := 1) (by omega)
                have y2 : wr.cell? ⟨w2.heap.size, 2, none⟩ = some (.slice a' (keepS (setF C (k + k2)) (valF C (k + k2)) k3).length c') := hO.box.cell (i := 2) (by omega)
                have q0 : wr.cell? ⟨w.heap.size + 1 + 1, 0, none⟩ = some (.bool false) := hbx3.res.cell (i := 0) (by omega)
                have q1 : wr.cell? ⟨w.heap.size + 1 + 1, 1, none⟩ = some (.bool false) := hbx3.res.cell (i := 1) (by omega)
                have q2 : wr.cell? ⟨w.heap.size + 1 + 1, 2, none⟩ = some (.slice none 0 0) := hbx3.res.cell (i := 2) (by omega)
                have f0 := hbx3.res.frozen 0
                have f1 := hbx3.res.frozen 1
                have f2 := hbx3.res.frozen 2
                have hrl := hbx.res.lt
                have hbl := hbx3.below
                have hwl := hbx.below.size
                clear hbx hbx3 hvr hsr
                go_wp2
                refine bodyPost_ret (v := .agg #[.bool false, .bool false, .slice a' (keepS (setF C (k + k2)) (valF C (k + k2)) k3).length c']) (by simp [results, Try.results32, go_sem, q0, q1, q2]) rfl ⟨a', c', _, rfl, ?_, ?_, fun x hx => by have := hx' x hx; omega, by rw [HC.out]⟩
                · have hy : ∀ x, a' = some x → x.block ≠ w.heap.size + 1 + 1 := fun x hx => by have := hx' x hx; omega
                  exact ((hS'.setOther _ _ hy).setOther _ _ hy).setOther _ _ hy
                · exact ((hbl.setCell (by show w.heap.size ≤ w.heap.size + 1 + 1; omega) _).setCell (by show w.heap.size ≤ w.heap.size + 1 + 1; omega) _).setCell (by show w.heap.size ≤ w.heap.size + 1 + 1; omega) _
          · go_wp2_with fail
            refine (repl_any w1.heap.size m (valF C (k + k2)) w2 hvr hm).mono ?_
            rintro e' w3 ⟨a', c', rfl, hS3, hb3, hx3⟩
            have hbx3 := hbx.later hb3
            have q0 : w3.cell? ⟨w.heap.size + 1 + 1, 0, none⟩ = some (.bool false) := hbx3.res.cell (i := 0) (by omega)
            have q1 : w3.cell? ⟨w.heap.size + 1 + 1, 1, none⟩ = some (.bool false) := hbx3.res.cell (i := 1) (by omega)
            have q2 : w3.cell? ⟨w.heap.size + 1 + 1, 2, none⟩ = some (.slice none 0 0) := hbx3.res.cell (i := 2) (by omega)
            have f0 := hbx3.res.frozen 0
            have f1 := hbx3.res.frozen 1
            have f2 := hbx3.res.frozen 2
            have hrl := hbx.res.lt
            have hbl := hbx3.below
            clear hbx hbx3 hvr hsr hb3
            go_wp2
            refine bodyPost_ret (v := .agg #[.bool false, .bool true, .slice a' (keepN (valF C (k + k2)) m).length c']) (by simp [results, Try.results32, go_sem, q0, q1, q2]) rfl ⟨a', c', _, rfl, ?_, ?_, fun x hx => by have := hx3 x hx; omega, by rw [HC.out]⟩
            · have hy : ∀ x, a' = some x → x.block ≠ w.heap.size + 1 + 1 := fun x hx => by have := hx3 x hx; omega
              exact ((hS3.setOther _ _ hy).setOther _ _ hy).setOther _ _ hy
            · exact ((hbl.setCell (by show w.heap.size ≤ w.heap.size + 1 + 1; omega) _).setCell (by show w.heap.size ≤ w.heap.size + 1 + 1; omega) _).setCell (by show w.heap.size ≤ w.heap.size + 1 + 1; omega) _
end Go.Proofs.Qxb6605262a
