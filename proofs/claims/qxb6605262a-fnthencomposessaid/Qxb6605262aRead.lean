import Derived.Test.Qxb6605262aThen
namespace Go.Proofs.Qxb6605262a
open Go.RowKit
set_option linter.unusedVariables false

set_option maxHeartbeats 800000 in
set_option maxRecDepth 100000 in
theorem zzthen_whole (e1 r1 : Bool) (a1 : Option Addr) (n1 c1 : Nat) (e2 r2 : Bool) (a2 : Option Addr) (n2 c2 : Nat) (nc : Int) (w : World) (hw : (e2 || r2) = true) :
    Calls Try.prog 20 #[.agg #[.bool e1, .bool r1, .slice a1 n1 c1], .agg #[.bool e2, .bool r2, .slice a2 n2 c2], .int .i64 nc] w fun e' w' => e' = .returned (.agg #[.bool e2, .bool r2, .slice a2 n2 c2]) ∧ Below w.heap.size w w' := by
  go_enter Try.func20, Try.ntmps20
  go_wp2_with fail
  refine (then_whole e1 r1 a1 n1 c1 e2 r2 a2 n2 c2 nc _ hw).mono ?_
  rintro e' w1 ⟨rfl, hb⟩
  have hB := (boxes_start w e1 r1 (.slice a1 n1 c1) e2 r2 (.slice a2 n2 c2)).later hb
  have r0 : w1.cell? ⟨w.heap.size + 1 + 1, 0, none⟩ = some (.bool false) := hB.res.cell (i := 0) (by omega)
  have r1' : w1.cell? ⟨w.heap.size + 1 + 1, 1, none⟩ = some (.bool false) := hB.res.cell (i := 1) (by omega)
  have r2' : w1.cell? ⟨w.heap.size + 1 + 1, 2, none⟩ = some (.slice none 0 0) := hB.res.cell (i := 2) (by omega)
  have f0 := hB.res.frozen 0
  have f1 := hB.res.frozen 1
  have f2 := hB.res.frozen 2
  have hbl := hB.below
  clear hB hb
  go_wp2
  refine bodyPost_ret (v := .agg #[.bool e2, .bool r2, .slice a2 n2 c2]) (by simp [results, Try.results20, go_sem, r0, r1', r2']) rfl ⟨rfl, ?_⟩
  exact ((hbl.setCell (by show w.heap.size ≤ w.heap.size + 1 + 1; omega) _).setCell (by show w.heap.size ≤ w.heap.size + 1 + 1; omega) _).setCell (by show w.heap.size ≤ w.heap.size + 1 + 1; omega) _

/-- What d.then(next) sets, next not whole. -/
def thenL (d1w : Bool) (A1 : Nat → Asg) (n1 : Nat) (A2 : Nat → Asg) (n2 m : Nat) : List Asg :=
  if d1w then keepN (valF (cat A1 n1 A2) (n1 + n2)) m else keepS (setF (cat A1 n1 A2) (n1 + n2)) (valF (cat A1 n1 A2) (n1 + n2)) m

set_option maxHeartbeats 800000 in
set_option maxRecDepth 100000 in
theorem zzthen_any (d1w : Bool) (e1 r1 : Bool) (hdw : (e1 || r1) = d1w) (a1 : Option Addr) (n1 c1 : Nat) (A1 : Nat → Asg) (a2 : Option Addr) (n2 c2 : Nat) (A2 : Nat → Asg) (m : Nat) (w : World) (h1 : SlA w a1 n1 c1 A1) (h2 : SlA w a2 n2 c2 A2) (hm : m ≤ 65536) (hn1 : n1 ≤ 1048576) (hn2 : n2 ≤ 1048576)
    (hc1 : colsB A1 n1 m) (hc2 : colsB A2 n2 m) :
    Calls Try.prog 20 #[.agg #[.bool e1, .bool r1, .slice a1 n1 c1], .agg #[.bool false, .bool false, .slice a2 n2 c2], .int .i64 (m : Nat)] w fun e' w' => ∃ a' c', e' = .returned (.agg #[.bool false, .bool d1w, .slice a' (thenL d1w A1 n1 A2 n2 m).length c']) ∧ SlA w' a' (thenL d1w A1 n1 A2 n2 m).length c' (fun i => (thenL d1w A1 n1 A2 n2 m).getD i nulA) ∧ Below w.heap.size w w' := by
  have hbs := boxes_start w e1 r1 (.slice a1 n1 c1) false false (.slice a2 n2 c2)
  have hb3 : Below w.heap.size w (((w.alloc (.cells #[.bool e1, .bool r1, .slice a1 n1 c1] 42)).alloc (.cells #[.bool false, .bool false, .slice a2 n2 c2] 42)).alloc (.cells #[.bool false, .bool false, .slice none 0 0] 42)) := hbs.below
  go_enter Try.func20, Try.ntmps20
  go_wp2_with fail
  refine (then_any d1w e1 r1 hdw a1 n1 c1 A1 a2 n2 c2 A2 m _ (h1.later hb3) (h2.later hb3) hm hn1 hn2 hc1 hc2).mono ?_
  rintro e' w1 ⟨a', c', L, rfl, hS, hb, hx, hL⟩
  have hB := hbs.later hb
  have hrl := hbs.res.lt
  have r0 : w1.cell? ⟨w.heap.size + 1 + 1, 0, none⟩ = some (.bool false) := hB.res.cell (i := 0) (by omega)
  have r1' : w1.cell? ⟨w.heap.size + 1 + 1, 1, none⟩ = some (.bool false) := hB.res.cell (i := 1) (by omega)
  have r2' : w1.cell? ⟨w.heap.size + 1 + 1, 2, none⟩ = some (.slice none 0 0) := hB.res.cell (i := 2) (by omega)
  have f0 := hB.res.frozen 0
  have f1 := hB.res.frozen 1
  have f2 := hB.res.frozen 2
  have hbl := hB.below
  have HL : Hid (L = thenL d1w A1 n1 A2 n2 m) := hL
  clear hB hb hbs hb3 hL
  go_wp2
  have hL := HL.out
  subst hL
  refine bodyPost_ret (v := .agg #[.bool false, .bool d1w, .slice a' (thenL d1w A1 n1 A2 n2 m).length c']) (by simp [results, Try.results20, go_sem, r0, r1', r2']) rfl ⟨a', c', rfl, ?_, ?_⟩
  · have hy : ∀ x, a' = some x → x.block ≠ w.heap.size + 1 + 1 := fun x hx' => by have := hx x hx'; omega
    exact ((hS.setOther _ _ hy).setOther _ _ hy).setOther _ _ hy
  · exact ((hbl.setCell (by show w.heap.size ≤ w.heap.size + 1 + 1; omega) _).setCell (by show w.heap.size ≤ w.heap.size + 1 + 1; omega) _).setCell (by show w.heap.size ≤ w.heap.size + 1 + 1; omega) _

/-- While readDelta reads. -/
structure Reading (w wr : World) (e r : Bool) (v : Value) (ob n : Nat) (A : Nat → Asg) (k : Nat) : Prop where
  below : Below w.heap.size w wr
  box : wr.rowIs w.heap.size 42 3 (dlt e r v)
  out : wr.rowIs ob 61 (n * 4) (quad (upto A nulA k))
  lo : w.heap.size + 1 ≤ ob

theorem Reading.later {w wr w' : World} {e r : Bool} {v : Value} {ob n : Nat} {A : Nat → Asg} {k : Nat} (h : Reading w wr e r v ob n A k) (hb : Below wr.heap.size wr w') : Reading w w' e r v ob n A k :=
  ⟨h.below.trans (hb.mono h.below.size), rowIs_later h.box hb, rowIs_later h.out hb, h.lo⟩
theorem Reading.alloc {w wr : World} {e r : Bool} {v : Value} {ob n : Nat} {A : Nat → Asg} {k : Nat} (h : Reading w wr e r v ob n A k) (o : Obj) : Reading w (wr.alloc o) e r v ob n A k :=
  ⟨h.below.alloc h.below.size _, h.box.alloc _, h.out.alloc _, h.lo⟩
theorem Reading.put {w wr : World} {e r : Bool} {v : Value} {ob n : Nat} {A : Nat → Asg} {k : Nat} (h : Reading w wr e r v ob n A k) : Reading w (put4 wr ob (k * 4) (A k)) e r v ob n A (k + 1) :=
  ⟨below_put4 h.below (by have := h.lo; omega) _ _, row_put4_other h.box (by have := h.lo; omega) _ _, rowQ_put h.out k (A k) (fun i _ => upto_step A nulA k i), h.lo⟩

set_option maxHeartbeats 1600000 in
set_option maxRecDepth 100000 in
theorem read_any (e r : Bool) (a : Option Addr) (n c : Nat) (A : Nat → Asg) (w : World) (h : SlA w a n c A) (hn : n ≤ 1048576) :
    Calls Try.prog 22 #[.agg #[.bool e, .bool r, .slice a n c]] w fun e' w' => ∃ a', e' = .returned (.tuple #[.bool e, .bool r, .slice a' n n]) ∧ SlA w' a' n n A ∧ Below w.heap.size w w' := by
  have hmk := run_make_struct (P := Try.prog) 35 61 _ 4 40 Try.underlying35 Try.info61 .i64 .i64 n (by omega) (by omega)
  simp only [Value.cells] at hmk
  go_enter Try.func22, Try.ntmps22
  go_wp2_with fail
  refine (flags_any e r a n c _).mono ?_
  rintro e' w1 ⟨rfl, hb1⟩
  have hbx := rowIs_later (row_one w (.bool e) (.bool r) (.slice a n c) 42 (dlt e r (.slice a n c)) rfl rfl rfl) hb1
  have hB1 : Below w.heap.size w w1 := ((Below.refl _ _).alloc (Nat.le_refl _) _).trans (hb1.mono (by simp))
  have hR0 : Reading w (w1.alloc (.cells (madeCells #[.int .i64 0, .int .u8 0, .int .u64 0, .string ByteArray.empty] (n * 4)) 61)) e r (.slice a n c) w1.heap.size n A 0 :=
    ⟨hB1.alloc hB1.size _, hbx.alloc _, rowQ_made w1 n 61, by have := hbx.lt; omega⟩
  clear hbx hb1
  go_wp2
  clear hmk
  go_loopg [9] n (fun gh i wr => ∃ k : Nat, k ≤ n ∧ gh = n - k ∧ i = .int .i64 (k : Nat) ∧ Reading w wr e r (.slice a n c) w1.heap.size n A k)
  case atStart => exact ⟨0, Nat.zero_le _, rfl, rfl, hR0⟩
  case round =>
    clear hR0
    obtain ⟨k, hk, rfl, rfl, hR⟩ := hrel
    by_cases hlt : k < n
    · have b0 : wr.cell? ⟨w.heap.size, 0, none⟩ = some (.bool e) := hR.box.cell (i := 0) (by omega)
      have b1 : wr.cell? ⟨w.heap.size, 1, none⟩ = some (.bool r) := hR.box.cell (i := 1) (by omega)
      have b2 : wr.cell? ⟨w.heap.size, 2, none⟩ = some (.slice a n c) := hR.box.cell (i := 2) (by omega)
      have hkz : (k : Int) < (n : Int) := by omega
      go_wp2_with fail
      refine (at_any e r a n c A k wr (h.later hR.below) hlt hn).mono ?_
      rintro e' w2 ⟨rfl, hb2⟩
      have hR2 := hR.later hb2
      clear hR hb2 b0 b1 b2
      go_wp2_with fail
      refine (parts_any (A k).v.t (A k).v.m (A k).v.s _).mono ?_
      rintro e' w3 ⟨rfl, hb3⟩
      have hR3 := (hR2.alloc (.cells #[.int .u8 (A k).v.t, .int .u64 (A k).v.m, .string (A k).v.s] 67)).later hb3
      obtain ⟨d0, d1, d2, d3⟩ := four_of_row hR3.out hlt
      have f0 := hR3.out.frozen (k * 4)
      have f1 := hR3.out.frozen (k * 4 + 1)
      have f2 := hR3.out.frozen (k * 4 + 2)
      have f3 := hR3.out.frozen (k * 4 + 3)
      clear hR2 hb3
      go_wp2
      go_roundg (n - (k + 1))
      case measure => go_light; omega
      case rel => go_light; exact ⟨k + 1, by omega, rfl, by go_num, hR3.put⟩
    · go_wp2
      go_ret3
      have e3 : k = n := by omega
      subst e3
      exact ⟨_, rfl, SlA.ofRow (quad_upto hR.out), hR.below⟩

/-- Two equal slices of assignments. -/
theorem same_any (a : Option Addr) (n c : Nat) (b : Option Addr) (d : Nat) (A B : Nat → Asg) (w : World) (h1 : SlA w a n c A) (h2 : SlA w b n d B) (hn : n ≤ 1048576) (heq : ∀ i, i < n → A i = B i) :
    Calls Try.prog 24 #[.slice a n c, .slice b n d] w fun e' w' => e' = .returned (.bool true) ∧ Below w.heap.size w w' := by
  obtain ⟨p1, o1, ha, hc1⟩ := h1.open
  obtain ⟨p2, o2, hb, hc2⟩ := h2.open
  clear h1 h2
  go_enter Try.func24, Try.ntmps24
  go_wp2
  go_loopg [5] n (fun gh i wr => ∃ k : Nat, k ≤ n ∧ gh = n - k ∧ i = .int .i64 (k : Nat) ∧ Below w.heap.size w wr)
  case atStart => exact ⟨0, Nat.zero_le _, rfl, rfl, Below.refl _ _⟩
  case round =>
    obtain ⟨k, hk, rfl, rfl, hbw⟩ := hrel
    by_cases hlt : k < n
    · obtain rfl := ha (by omega)
      obtain rfl := hb (by omega)
      obtain ⟨x0, x1, x2, x3⟩ := (hc1 k hlt).later hbw
      obtain ⟨y0, y1, y2, y3⟩ := (hc2 k hlt).later hbw
      have e := heq k hlt
      rw [← e] at y0 y1 y2 y3
      have hkz : (k : Int) < (n : Int) := by omega
      clear hc1 hc2 ha hb e heq
      go_wp2_with fail
      go_quiet (fail)
      go_wp2
      go_roundg (n - (k + 1))
      case measure => go_light; omega
      case rel => go_light; exact ⟨k + 1, by omega, rfl, by go_num, below_drewN hbw _⟩
    · go_wp2
      go_ret
      exact ⟨rfl, hbw⟩
end Go.Proofs.Qxb6605262a
