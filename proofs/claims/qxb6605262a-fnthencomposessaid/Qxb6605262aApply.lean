import Derived.Test.Qxb6605262aCells
namespace Go.Proofs.Qxb6605262a
open Go.RowKit
set_option linter.unusedVariables false

/-- The last assignments laid over G. -/
def over (A : Nat → Asg) (k : Nat) (G : Nat → Val) : Nat → Val := fun col => (lastV A k col).getD (G col)
theorem over_step {A : Nat → Asg} {k j : Nat} {G : Nat → Val} (h : (A k).c = (j : Int)) (i : Nat) : over A (k + 1) G i = if i = j then (A k).v else over A k G i := by
  unfold over
  rw [lastV, h]
  by_cases e : i = j
  · subst e; simp
  · rw [if_neg e, if_neg (by omega)]

def cleared (F : Nat → Val) (k : Nat) : Nat → Val := fun i => if i < k then nul else F i
theorem cleared_zero (F : Nat → Val) : cleared F 0 = F := by funext i; simp [cleared]
theorem cleared_step (F : Nat → Val) (k i : Nat) : cleared F (k + 1) i = if i = k then nul else cleared F k i := by
  unfold cleared
  by_cases e : i = k
  · subst e; rw [if_pos rfl, if_pos (by omega)]
  · rw [if_neg e]
    by_cases h : i < k
    · rw [if_pos h, if_pos (by omega)]
    · rw [if_neg h, if_neg (by omega)]

structure Cel (W0 wr : World) (b m : Nat) (F : Nat → Val) : Prop where
  below : Below W0.heap.size W0 wr
  row : wr.rowIs b 58 (m * 3) (trip F)
  lo : W0.heap.size ≤ b

theorem Cel.put {W0 wr : World} {b m : Nat} {A : Nat → Asg} {k j : Nat} {G : Nat → Val} (h : Cel W0 wr b m (over A k G)) (hj : (A k).c = (j : Int)) : Cel W0 (put3 wr b (j * 3) (A k).v).drew b m (over A (k + 1) G) :=
  ⟨(below_put3 h.below h.lo _ _).drew, (rowT_put h.row j (A k).v (fun i _ => over_step hj i)).drew, h.lo⟩
theorem Cel.wipe {W0 wr : World} {b m : Nat} {F : Nat → Val} {k : Nat} (h : Cel W0 wr b m (cleared F k)) : Cel W0 (put3 wr b (k * 3) nul) b m (cleared F (k + 1)) :=
  ⟨below_put3 h.below h.lo _ _, rowT_put h.row k nul (fun i _ => cleared_step F k i), h.lo⟩
theorem Cel.all {W0 wr : World} {b m : Nat} {F : Nat → Val} {k : Nat} (h : Cel W0 wr b m (cleared F k)) (e : k = m) : Cel W0 wr b m (fun _ => nul) :=
  ⟨h.below, h.row.congr fun i hi => by subst e; unfold trip cleared; rw [if_pos (by omega)], h.lo⟩

def clr (e r ex : Bool) (F : Nat → Val) : Nat → Val := if e || r || !ex then (fun _ => nul) else F
def appl (e r ex : Bool) (A : Nat → Asg) (n : Nat) (F : Nat → Val) : Nat → Val := if e then clr e r ex F else over A n (clr e r ex F)

set_option maxHeartbeats 1600000 in
set_option maxRecDepth 100000 in
theorem apply_erase (r ex : Bool) (a : Option Addr) (n c : Nat) (A : Nat → Asg) (b m : Nat) (F : Nat → Val) (W0 w : World) (h : SlA W0 a n c A) (hC0 : Cel W0 w b m F) (hn : n ≤ 1048576) (hm : m ≤ 65536) :
    Calls Try.prog 29 #[.bool true, .bool r, .slice a n c, .bool ex, .slice (some ⟨b, 0, none⟩) m m] w fun e' w' => e' = .returned (.tuple #[.bool false, .slice (some ⟨b, 0, none⟩) m m]) ∧ Cel W0 w' b m (fun _ => nul) := by
  clear h
  go_enter Try.func29, Try.ntmps29
  go_wp2
  go_loopg [12] m (fun gh i wr => ∃ k : Nat, k ≤ m ∧ gh = m - k ∧ i = .int .i64 (k : Nat) ∧ Cel W0 wr b m (cleared F k))
  case atStart => exact ⟨0, Nat.zero_le _, rfl, rfl, by rw [cleared_zero]; exact hC0⟩
  case round =>
    clear hC0
    obtain ⟨k, hk, rfl, rfl, hC⟩ := hrel
    by_cases hlt : k < m
    · have hkz : (k : Int) < (m : Int) := by omega
      obtain ⟨d0, d1, d2⟩ := three_of_row hC.row hlt
      have f0 := hC.row.frozen (k * 3)
      have f1 := hC.row.frozen (k * 3 + 1)
      have f2 := hC.row.frozen (k * 3 + 2)
      go_wp2
      go_roundg (m - (k + 1))
      case measure => go_light; omega
      case rel => go_light; exact ⟨k + 1, by omega, rfl, by go_num, hC.wipe⟩
    · have e8 : k = m := by omega
      have hC1 := hC.all e8
      clear e8
      go_wp2
      go_ret2
      exact ⟨rfl, hC1⟩

set_option maxHeartbeats 1600000 in
set_option maxRecDepth 100000 in
theorem apply_repl (ex : Bool) (a : Option Addr) (n c : Nat) (A : Nat → Asg) (b m : Nat) (F : Nat → Val) (W0 w : World) (h : SlA W0 a n c A) (hC0 : Cel W0 w b m F) (hn : n ≤ 1048576) (hm : m ≤ 65536) (hcs : colsB A n m) :
    Calls Try.prog 29 #[.bool false, .bool true, .slice a n c, .bool ex, .slice (some ⟨b, 0, none⟩) m m] w fun e' w' => e' = .returned (.tuple #[.bool true, .slice (some ⟨b, 0, none⟩) m m]) ∧ Cel W0 w' b m (over A n (fun _ => nul)) := by
  obtain ⟨p1, o1, ha, hA⟩ := h.open
  clear h
  go_enter Try.func29, Try.ntmps29
  go_wp2
  go_loopg [12] m (fun gh i wr => ∃ k : Nat, k ≤ m ∧ gh = m - k ∧ i = .int .i64 (k : Nat) ∧ Cel W0 wr b m (cleared F k))
  case atStart => exact ⟨0, Nat.zero_le _, rfl, rfl, by rw [cleared_zero]; exact hC0⟩
  case round =>
    clear hC0
    obtain ⟨k, hk, rfl, rfl, hC⟩ := hrel
    by_cases hlt : k < m
    · have hkz : (k : Int) < (m : Int) := by omega
      obtain ⟨d0, d1, d2⟩ := three_of_row hC.row hlt
      have f0 := hC.row.frozen (k * 3)
      have f1 := hC.row.frozen (k * 3 + 1)
      have f2 := hC.row.frozen (k * 3 + 2)
      go_wp2
      go_roundg (m - (k + 1))
      case measure => go_light; omega
      case rel => go_light; exact ⟨k + 1, by omega, rfl, by go_num, hC.wipe⟩
    · have e8 : k = m := by omega
      have hC1 := hC.all e8
      clear e8
      go_wp2
      go_loopg [13] n (fun gh i wr => ∃ k : Nat, k ≤ n ∧ gh = n - k ∧ i = .int .i64 (k : Nat) ∧ Cel W0 wr b m (over A k (fun _ => nul)))
      case atStart => exact ⟨0, Nat.zero_le _, rfl, rfl, hC1⟩
      case round =>
        clear hC1
        obtain ⟨k, hk, rfl, rfl, hC⟩ := hrel
        by_cases hlt : k < n
        · obtain rfl := ha (by omega)
          have hkz : (k : Int) < (n : Int) := by omega
          obtain ⟨j, hj⟩ : ∃ j : Nat, (A k).c = (j : Int) := ⟨(A k).c.toNat, by have := hcs k hlt; omega⟩
          have hjm : j < m := by have := hcs k hlt; omega
          have hjz : (j : Int) < (m : Int) := by omega
          have HJ : Hid ((A k).c = (j : Int)) := hj
          obtain ⟨x0, x1, x2, x3⟩ := (hA k hlt).later hC.below
          rw [hj] at x0
          obtain ⟨d0, d1, d2⟩ := three_of_row hC.row hjm
          have f0 := hC.row.frozen (j * 3)
          have f1 := hC.row.frozen (j * 3 + 1)
          have f2 := hC.row.frozen (j * 3 + 2)
          clear hj
          go_wp2_with fail
          go_region
          all_goals go_wp2_with fail
          all_goals
            go_roundg (n - (k + 1))
            case measure => go_light; omega
            case rel => go_light; exact ⟨k + 1, by omega, rfl, by go_num, hC.put HJ.out⟩
        · have e9 : k = n := by omega
          subst e9
          go_wp2
          go_ret2
          exact ⟨rfl, hC⟩

set_option maxHeartbeats 1600000 in
set_option maxRecDepth 100000 in
theorem apply_new (a : Option Addr) (n c : Nat) (A : Nat → Asg) (b m : Nat) (F : Nat → Val) (W0 w : World) (h : SlA W0 a n c A) (hC0 : Cel W0 w b m F) (hn : n ≤ 1048576) (hm : m ≤ 65536) (hcs : colsB A n m) :
    Calls Try.prog 29 #[.bool false, .bool false, .slice a n c, .bool false, .slice (some ⟨b, 0, none⟩) m m] w fun e' w' => e' = .returned (.tuple #[.bool true, .slice (some ⟨b, 0, none⟩) m m]) ∧ Cel W0 w' b m (over A n (fun _ => nul)) := by
  obtain ⟨p1, o1, ha, hA⟩ := h.open
  clear h
  go_enter Try.func29, Try.ntmps29
  go_wp2
  go_loopg [12] m (fun gh i wr => ∃ k : Nat, k ≤ m ∧ gh = m - k ∧ i = .int .i64 (k : Nat) ∧ Cel W0 wr b m (cleared F k))
  case atStart => exact ⟨0, Nat.zero_le _, rfl, rfl, by rw [cleared_zero]; exact hC0⟩
  case round =>
    clear hC0
    obtain ⟨k, hk, rfl, rfl, hC⟩ := hrel
    by_cases hlt : k < m
    · have hkz : (k : Int) < (m : Int) := by omega
      obtain ⟨d0, d1, d2⟩ := three_of_row hC.row hlt
      have f0 := hC.row.frozen (k * 3)
      have f1 := hC.row.frozen (k * 3 + 1)
      have f2 := hC.row.frozen (k * 3 + 2)
      go_wp2
      go_roundg (m - (k + 1))
      case measure => go_light; omega
      case rel => go_light; exact ⟨k + 1, by omega, rfl, by go_num, hC.wipe⟩
    · have e8 : k = m := by omega
      have hC1 := hC.all e8
      clear e8
      go_wp2
      go_loopg [13] n (fun gh i wr => ∃ k : Nat, k ≤ n ∧ gh = n - k ∧ i = .int .i64 (k : Nat) ∧ Cel W0 wr b m (over A k (fun _ => nul)))
      case atStart => exact ⟨0, Nat.zero_le _, rfl, rfl, hC1⟩
      case round =>
        clear hC1
        obtain ⟨k, hk, rfl, rfl, hC⟩ := hrel
        by_cases hlt : k < n
        · obtain rfl := ha (by omega)
          have hkz : (k : Int) < (n : Int) := by omega
          obtain ⟨j, hj⟩ : ∃ j : Nat, (A k).c = (j : Int) := ⟨(A k).c.toNat, by have := hcs k hlt; omega⟩
          have hjm : j < m := by have := hcs k hlt; omega
          have hjz : (j : Int) < (m : Int) := by omega
          have HJ : Hid ((A k).c = (j : Int)) := hj
          obtain ⟨x0, x1, x2, x3⟩ := (hA k hlt).later hC.below
          rw [hj] at x0
          obtain ⟨d0, d1, d2⟩ := three_of_row hC.row hjm
          have f0 := hC.row.frozen (j * 3)
          have f1 := hC.row.frozen (j * 3 + 1)
          have f2 := hC.row.frozen (j * 3 + 2)
          clear hj
          go_wp2_with fail
          go_region
          all_goals go_wp2_with fail
          all_goals
            go_roundg (n - (k + 1))
            case measure => go_light; omega
            case rel => go_light; exact ⟨k + 1, by omega, rfl, by go_num, hC.put HJ.out⟩
        · have e9 : k = n := by omega
          subst e9
          go_wp2
          go_ret2
          exact ⟨rfl, hC⟩

set_option maxHeartbeats 1600000 in
set_option maxRecDepth 100000 in
theorem apply_on (a : Option Addr) (n c : Nat) (A : Nat → Asg) (b m : Nat) (G : Nat → Val) (W0 w : World) (h : SlA W0 a n c A) (hC1 : Cel W0 w b m G) (hn : n ≤ 1048576) (hm : m ≤ 65536) (hcs : colsB A n m) :
    Calls Try.prog 29 #[.bool false, .bool false, .slice a n c, .bool true, .slice (some ⟨b, 0, none⟩) m m] w fun e' w' => e' = .returned (.tuple #[.bool true, .slice (some ⟨b, 0, none⟩) m m]) ∧ Cel W0 w' b m (over A n G) := by
  obtain ⟨p1, o1, ha, hA⟩ := h.open
  clear h
  go_enter Try.func29, Try.ntmps29
  go_wp2
  go_loopg [13] n (fun gh i wr => ∃ k : Nat, k ≤ n ∧ gh = n - k ∧ i = .int .i64 (k : Nat) ∧ Cel W0 wr b m (over A k G))
  case atStart => exact ⟨0, Nat.zero_le _, rfl, rfl, hC1⟩
  case round =>
    clear hC1
    obtain ⟨k, hk, rfl, rfl, hC⟩ := hrel
    by_cases hlt : k < n
    · obtain rfl := ha (by omega)
      have hkz : (k : Int) < (n : Int) := by omega
      obtain ⟨j, hj⟩ : ∃ j : Nat, (A k).c = (j : Int) := ⟨(A k).c.toNat, by have := hcs k hlt; omega⟩
      have hjm : j < m := by have := hcs k hlt; omega
      have hjz : (j : Int) < (m : Int) := by omega
      have HJ : Hid ((A k).c = (j : Int)) := hj
      obtain ⟨x0, x1, x2, x3⟩ := (hA k hlt).later hC.below
      rw [hj] at x0
      obtain ⟨d0, d1, d2⟩ := three_of_row hC.row hjm
      have f0 := hC.row.frozen (j * 3)
      have f1 := hC.row.frozen (j * 3 + 1)
      have f2 := hC.row.frozen (j * 3 + 2)
      clear hj
      go_wp2_with fail
      go_region
      all_goals go_wp2_with fail
      all_goals
        go_roundg (n - (k + 1))
        case measure => go_light; omega
        case rel => go_light; exact ⟨k + 1, by omega, rfl, by go_num, hC.put HJ.out⟩
    · have e9 : k = n := by omega
      subst e9
      go_wp2
      go_ret2
      exact ⟨rfl, hC⟩

theorem apply_any (e r ex : Bool) (a : Option Addr) (n c : Nat) (A : Nat → Asg) (b m : Nat) (F : Nat → Val) (W0 w : World) (h : SlA W0 a n c A) (hC : Cel W0 w b m F) (hn : n ≤ 1048576) (hm : m ≤ 65536) (hcs : colsB A n m) :
    Calls Try.prog 29 #[.bool e, .bool r, .slice a n c, .bool ex, .slice (some ⟨b, 0, none⟩) m m] w fun e' w' => e' = .returned (.tuple #[.bool (!e), .slice (some ⟨b, 0, none⟩) m m]) ∧ Cel W0 w' b m (appl e r ex A n F) := by
  cases e
  · cases r
    · cases ex
      · exact apply_new a n c A b m F W0 w h hC hn hm hcs
      · exact apply_on a n c A b m F W0 w h hC hn hm hcs
    · exact apply_repl ex a n c A b m F W0 w h hC hn hm hcs
  · exact apply_erase r ex a n c A b m F W0 w h hC hn hm

/-- Alike: both NULL, or the same. -/
def alike (x y : Val) : Prop := (x.t = 0 ∧ y.t = 0) ∨ x = y
end Go.Proofs.Qxb6605262a
