import Derived.Test.Qxb6605262aAsg
import Derived.Deep.Cut
import Derived.Deep.CutRange
import Derived.Deep.RegionWith
import Derived.RegionTactic
import Derived.BigRegion
namespace Go.Proofs.Qxb6605262a
open Go.RowKit
set_option linter.unusedVariables false

def valV (x : Val) : Value := .agg #[.int .u8 x.t, .int .u64 x.m, .string x.s]

theorem mkval_any (t m : Int) (s : ByteArray) (w : World) :
    Calls Try.prog 33 #[.int .u8 t, .int .u64 m, .string s] w fun e w' => e = .returned (.agg #[.int .u8 t, .int .u64 m, .string s]) ∧ w' = w.alloc (.cells #[.int .u8 t, .int .u64 m, .string s] 67) := by
  go_enter Try.func33, Try.ntmps33
  go_wp2
  exact bodyPost_ret (v := .agg #[.int .u8 t, .int .u64 m, .string s]) (by simp [results, Try.results33, go_sem]) rfl ⟨rfl, rfl⟩

theorem parts_any (t m : Int) (s : ByteArray) (w : World) :
    Calls Try.prog 37 #[.agg #[.int .u8 t, .int .u64 m, .string s]] w fun e w' => e = .returned (.tuple #[.int .u8 t, .int .u64 m, .string s]) ∧ Below w.heap.size w w' := by
  go_enter Try.func37, Try.ntmps37
  go_wp2
  go_region
  all_goals go_wp2
  all_goals go_ret3
  all_goals exact ⟨rfl, ((Below.refl _ _).alloc (Nat.le_refl _) _).drew⟩

theorem flags_any (e r : Bool) (a : Option Addr) (n c : Nat) (w : World) :
    Calls Try.prog 35 #[.agg #[.bool e, .bool r, .slice a n c]] w fun e' w' => e' = .returned (.tuple #[.bool e, .bool r, .int .i64 (n : Nat)]) ∧ Below w.heap.size w w' := by
  go_enter Try.func35, Try.ntmps35
  go_wp2
  go_region
  all_goals go_wp2
  all_goals go_ret3
  all_goals exact ⟨rfl, ((Below.refl _ _).alloc (Nat.le_refl _) _).drew⟩

set_option maxHeartbeats 400000 in
set_option maxRecDepth 100000 in
theorem at_any (e r : Bool) (a : Option Addr) (n c : Nat) (A : Nat → Asg) (i : Nat) (w : World) (h : SlA w a n c A) (hi : i < n) (hn : n ≤ 1048576) :
    Calls Try.prog 36 #[.agg #[.bool e, .bool r, .slice a n c], .int .i64 (i : Nat)] w fun e' w' => e' = .returned (.tuple #[.int .i64 (A i).c, .agg #[.int .u8 (A i).v.t, .int .u64 (A i).v.m, .string (A i).v.s]]) ∧ Below w.heap.size w w' := by
  obtain ⟨b, off, rfl, hc⟩ := h.cells.resolve_left (by omega)
  obtain ⟨e0, e1, e2, e3⟩ := hc i hi
  have g0 : ∀ o o', ((w.alloc o).alloc o').cell? ⟨b, off + i * 4, none⟩ = some (.int .i64 (A i).c) := fun o o' => cell_later (((Below.refl _ _).alloc (Nat.le_refl _) _).alloc (by simp) _) e0
  have g1 : ∀ o o', ((w.alloc o).alloc o').cell? ⟨b, off + i * 4 + 1, none⟩ = some (.int .u8 (A i).v.t) := fun o o' => cell_later (((Below.refl _ _).alloc (Nat.le_refl _) _).alloc (by simp) _) e1
  have g2 : ∀ o o', ((w.alloc o).alloc o').cell? ⟨b, off + i * 4 + 1 + 1, none⟩ = some (.int .u64 (A i).v.m) := fun o o' => cell_later (((Below.refl _ _).alloc (Nat.le_refl _) _).alloc (by simp) _) e2
  have g3 : ∀ o o', ((w.alloc o).alloc o').cell? ⟨b, off + i * 4 + 1 + 2, none⟩ = some (.string (A i).v.s) := fun o o' => cell_later (((Below.refl _ _).alloc (Nat.le_refl _) _).alloc (by simp) _) e3
  have hz : (i : Int) < (n : Int) := by omega
  clear hc h e0 e1 e2 e3
  go_enter Try.func36, Try.ntmps36
  go_wp2
  go_region
  all_goals go_wp2
  all_goals exact bodyPost_ret (v := .tuple #[.int .i64 (A i).c, .agg #[.int .u8 (A i).v.t, .int .u64 (A i).v.m, .string (A i).v.s]]) (by simp [results, Try.results36, go_sem]) rfl ⟨rfl, (((Below.refl _ _).alloc (Nat.le_refl _) _).alloc (by simp) _).drew⟩

theorem Try.info81 : (Try.prog.info? 81).map (fun i => (i.zero, i.size, i.bytes)) = some (some (.agg #[.int .i64 0, .int .u8 0, .int .u64 0, .string ByteArray.empty]), 4, 40) := by kernel_rfl
theorem Try.info67 : (Try.prog.info? 67).map (fun i => (i.zero, i.size, i.bytes)) = some (some (.agg #[.int .u8 0, .int .u64 0, .string ByteArray.empty]), 3, 32) := by kernel_rfl
theorem Try.info3 : (Try.prog.info? 3).map (fun i => (i.zero, i.size, i.bytes)) = some (some (.int .i64 0), 1, 8) := by kernel_rfl
theorem Try.info4 : (Try.prog.info? 4).map (fun i => (i.zero, i.size, i.bytes)) = some (some (.bool false), 1, 1) := by kernel_rfl

/-- The three cells of a delta. -/
def dlt (e r : Bool) (v : Value) : Nat → Value
  | 0 => .bool e
  | 1 => .bool r
  | _ => v

theorem row_one (w : World) (x y z : Value) (t : TypeId) (f : Nat → Value) (h0 : x = f 0) (h1 : y = f 1) (h2 : z = f 2) : (w.alloc (.cells #[x, y, z] t)).rowIs w.heap.size t 3 f := by
  refine ⟨_, Go.Deep.blk_alloc_new _ _, rfl, fun i hi => ?_⟩
  rcases (show i = 0 ∨ i = 1 ∨ i = 2 by omega) with rfl | rfl | rfl
  · simp [h0]
  · simp [h1]
  · simp [h2]

/-- While the set is filled. -/
structure Filling (w wr : World) (e r : Bool) (n : Nat) (A : Nat → Asg) (k : Nat) : Prop where
  below : Below w.heap.size w wr
  res : wr.rowIs w.heap.size 42 3 (dlt false false (.slice none 0 0))
  box : wr.rowIs (w.heap.size + 1) 42 3 (dlt e r (.slice (some ⟨w.heap.size + 2, 0, none⟩) n n))
  set : wr.rowIs (w.heap.size + 2) 81 (n * 4) (quad (upto A nulA k))

theorem filling_start (w : World) (e r : Bool) (n : Nat) (A : Nat → Asg) :
    Filling w (((w.alloc (.cells #[.bool false, .bool false, .slice none 0 0] 42)).alloc (.cells #[.bool e, .bool r, .slice (some ⟨w.heap.size + 2, 0, none⟩) n n] 42)).alloc (.cells (madeCells #[.int .i64 0, .int .u8 0, .int .u64 0, .string ByteArray.empty] (n * 4)) 81)) e r n A 0 := by
  have h1 := row_one w (.bool false) (.bool false) (.slice none 0 0) 42 (dlt false false (.slice none 0 0)) rfl rfl rfl
  have h2 := row_one (w.alloc (.cells #[.bool false, .bool false, .slice none 0 0] 42)) (.bool e) (.bool r) (.slice (some ⟨w.heap.size + 2, 0, none⟩) n n) 42 (dlt e r (.slice (some ⟨w.heap.size + 2, 0, none⟩) n n)) rfl rfl rfl
  have h3 := rowQ_made ((w.alloc (.cells #[.bool false, .bool false, .slice none 0 0] 42)).alloc (.cells #[.bool e, .bool r, .slice (some ⟨w.heap.size + 2, 0, none⟩) n n] 42)) n 81
  simp only [World.size_alloc] at h2 h3
  exact ⟨(((Below.refl _ _).alloc (Nat.le_refl _) _).alloc (by simp) _).alloc (by simp; omega) _, (h1.alloc _).alloc _, h2.alloc _, h3⟩

theorem filling_step {w wr : World} {e r : Bool} {n : Nat} {A : Nat → Asg} {k : Nat} (h : Filling w wr e r n A k) : Filling w (put4 wr (w.heap.size + 2) (k * 4) (A k)).drew e r n A (k + 1) :=
  ⟨(below_put4 h.below (by omega) _ _).drew, (row_put4_other h.res (by omega) _ _).drew, (row_put4_other h.box (by omega) _ _).drew, (rowQ_put h.set k (A k) (fun i _ => upto_step A nulA k i)).drew⟩

set_option maxHeartbeats 800000 in
set_option maxRecDepth 100000 in
theorem from_any (e r : Bool) (cb vb n : Nat) (A : Nat → Asg) (w : World) (hc : w.rowIs cb 3 n (fun i => .int .i64 (A i).c)) (hv : w.rowIs vb 67 (n * 3) (trip fun i => (A i).v)) (hn : n ≤ 1048576) :
    Calls Try.prog 34 #[.bool e, .bool r, .slice (some ⟨cb, 0, none⟩) n n, .slice (some ⟨vb, 0, none⟩) n n] w fun e' w' => ∃ a' c', e' = .returned (.agg #[.bool e, .bool r, .slice a' n c']) ∧ SlA w' a' n c' A ∧ Below w.heap.size w w' ∧ (∀ x, a' = some x → w.heap.size ≤ x.block) := by
  by_cases h0 : n = 0
  · subst h0
    clear hc hv
    go_enter Try.func34, Try.ntmps34
    go_wp2
    refine bodyPost_ret (v := .agg #[.bool e, .bool r, .slice none 0 0]) (by simp [results, Try.results34, go_sem]) rfl ⟨none, 0, rfl, ⟨Nat.le_refl _, fun _ => ⟨rfl, rfl⟩, .inl rfl⟩, ?_, fun x hx => by cases hx⟩
    exact ((Below.refl _ _).alloc (Nat.le_refl _) _).alloc (by simp) _
  · have hmk := run_make_struct (P := Try.prog) 40 81 _ 4 40 Try.underlying40 Try.info81 .i64 .i64 n (by omega) (by omega)
    simp only [Value.cells] at hmk
    have hz : (0 : Int) < (n : Int) := by omega
    go_enter Try.func34, Try.ntmps34
    go_wp2
    clear hmk
    go_loopg [23] n (fun gh i wr => ∃ k : Nat, k ≤ n ∧ gh = n - k ∧ i = .int .i64 (k : Nat) ∧ Filling w wr e r n A k)
    case atStart => exact ⟨0, Nat.zero_le _, rfl, rfl, filling_start w e r n A⟩
    case round =>
      obtain ⟨k, hk, rfl, rfl, hF⟩ := hrel
      have b0 : wr.cell? ⟨w.heap.size + 1, 0, none⟩ = some (.bool e) := hF.box.cell (i := 0) (by omega)
      have b1 : wr.cell? ⟨w.heap.size + 1, 1, none⟩ = some (.bool r) := hF.box.cell (i := 1) (by omega)
      have b2 : wr.cell? ⟨w.heap.size + 1, 2, none⟩ = some (.slice (some ⟨w.heap.size + 2, 0, none⟩) n n) := hF.box.cell (i := 2) (by omega)
      by_cases hlt : k < n
      · have d0 : wr.cell? ⟨cb, k, none⟩ = some (.int .i64 (A k).c) := cell_later hF.below (hc.cell hlt)
        obtain ⟨e0, e1, e2⟩ := (three_of_row hv hlt).later hF.below
        obtain ⟨g0, g1, g2, g3⟩ := four_of_row hF.set hlt
        have f0 := hF.set.frozen (k * 4)
        have f1 := hF.set.frozen (k * 4 + 1)
        have f2 := hF.set.frozen (k * 4 + 2)
        have f3 := hF.set.frozen (k * 4 + 3)
        have hkz : (k : Int) < (n : Int) := by omega
        go_wp2_with fail
        go_region
        all_goals go_wp2_with fail
        all_goals
          go_roundg (n - (k + 1))
          case measure => go_light; omega
          case rel => go_light; exact ⟨k + 1, by omega, rfl, by go_num, filling_step hF⟩
      · have e1 : k = n := by omega
        subst e1
        have r0 : wr.cell? ⟨w.heap.size, 0, none⟩ = some (.bool false) := hF.res.cell (i := 0) (by omega)
        have r1 : wr.cell? ⟨w.heap.size, 1, none⟩ = some (.bool false) := hF.res.cell (i := 1) (by omega)
        have r2 : wr.cell? ⟨w.heap.size, 2, none⟩ = some (.slice none 0 0) := hF.res.cell (i := 2) (by omega)
        have f0 := hF.res.frozen 0
        have f1 := hF.res.frozen 1
        have f2 := hF.res.frozen 2
        go_wp2
        refine bodyPost_ret (v := .agg #[.bool e, .bool r, .slice (some ⟨w.heap.size + 2, 0, none⟩) k k]) (by simp [results, Try.results34, go_sem, r0, r1, r2]) rfl ⟨_, k, rfl, SlA.ofRow (t := 81) (quad_upto (t := 81) ?_), ?_, fun x hx => by cases hx; show w.heap.size ≤ w.heap.size + 2; omega⟩
        · exact ((hF.set.setOther (by show w.heap.size + 2 ≠ w.heap.size; omega) _).setOther (by show w.heap.size + 2 ≠ w.heap.size; omega) _).setOther (by show w.heap.size + 2 ≠ w.heap.size; omega) _
        · exact ((hF.below.setCell (Nat.le_refl _) _).setCell (Nat.le_refl _) _).setCell (Nat.le_refl _) _

theorem SlA.setOther {w : World} {a : Option Addr} {n c : Nat} {A : Nat → Asg} (h : SlA w a n c A) (y : Addr) (v : Value) (hy : ∀ x, a = some x → x.block ≠ y.block) : SlA (w.setCell y v) a n c A := by
  refine ⟨h.le, h.nil, ?_⟩
  rcases h.cells with h0 | ⟨b, off, ha, hc⟩
  · exact .inl h0
  · have hne : ∀ o, (w.setCell y v).cell? ⟨b, o, none⟩ = w.cell? ⟨b, o, none⟩ := fun o =>
      World.cell?_setCell_other _ _ _ _ (fun e => by have := congrArg Addr.block e; exact hy _ ha (by simpa using this.symm))
    exact .inr ⟨b, off, ha, fun i hi => ⟨by rw [hne]; exact (hc i hi).c0, by rw [hne]; exact (hc i hi).c1, by rw [hne]; exact (hc i hi).c2, by rw [hne]; exact (hc i hi).c3⟩⟩

theorem rowIs_later {w w' : World} {b t n : Nat} {f : Nat → Value} (h : w.rowIs b t n f) (hb : Below w.heap.size w w') : w'.rowIs b t n f := h.of_block (hb.block _ h.lt)
end Go.Proofs.Qxb6605262a
