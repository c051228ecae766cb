import Derived.Test.Qxb6605262aDelta
namespace Go.Proofs.Qxb6605262a
open Go.RowKit
set_option linter.unusedVariables false

def colF (A : Nat → Asg) (k : Nat) : Nat → Value := fun i => .int .i64 (if i < k then (A i).c else 0)
theorem colF_step (A : Nat → Asg) (k i : Nat) : colF A (k + 1) i = if i = k then .int .i64 (A k).c else colF A k i := by
  unfold colF
  by_cases e : i = k
  · subst e; rw [if_pos rfl, if_pos (by omega)]
  · rw [if_neg e]
    by_cases h : i < k
    · rw [if_pos h, if_pos (by omega)]
    · rw [if_neg h, if_neg (by omega)]

/-- While the two slices of buildDelta are filled. -/
structure Building (w wr : World) (n : Nat) (A : Nat → Asg) (j k : Nat) : Prop where
  below : Below w.heap.size w wr
  size : w.heap.size + 3 ≤ wr.heap.size
  res : wr.rowIs w.heap.size 42 3 (dlt false false (.slice none 0 0))
  cols : wr.rowIs (w.heap.size + 1) 3 n (colF A j)
  vals : wr.rowIs (w.heap.size + 1 + 1) 67 (n * 3) (trip (upto (fun i => (A i).v) nul k))

theorem building_start (w : World) (n : Nat) (A : Nat → Asg) :
    Building w (((w.alloc (.cells #[.bool false, .bool false, .slice none 0 0] 42)).alloc (.cells (madeCells #[.int .i64 0] n) 3)).alloc (.cells (madeCells #[.int .u8 0, .int .u64 0, .string ByteArray.empty] (n * 3)) 67)) n A 0 0 := by
  have h1 := row_one w (.bool false) (.bool false) (.slice none 0 0) 42 (dlt false false (.slice none 0 0)) rfl rfl rfl
  have h2 := World.rowIs_made (w.alloc (.cells #[.bool false, .bool false, .slice none 0 0] 42)) (.int .i64 0) n 3
  have h3 := rowT_made ((w.alloc (.cells #[.bool false, .bool false, .slice none 0 0] 42)).alloc (.cells (madeCells #[.int .i64 0] n) 3)) n 67
  simp only [World.size_alloc] at h2 h3
  exact ⟨(((Below.refl _ _).alloc (Nat.le_refl _) _).alloc (by simp) _).alloc (by simp; omega) _, by simp, (h1.alloc _).alloc _, (h2.alloc _).congr (fun i _ => by simp [colF]), h3⟩

theorem building_col {w wr : World} {n : Nat} {A : Nat → Asg} {k : Nat} (h : Building w wr n A k k) : Building w (wr.setCell ⟨w.heap.size + 1, k, none⟩ (.int .i64 (A k).c)) n A (k + 1) k :=
  ⟨h.below.setCell (by show w.heap.size ≤ w.heap.size + 1; omega) _, by simpa using h.size, h.res.setOther (by show w.heap.size ≠ w.heap.size + 1; omega) _, (h.cols.set k _).congr (fun i _ => (colF_step A k i).symm), h.vals.setOther (by show w.heap.size + 1 + 1 ≠ w.heap.size + 1; omega) _⟩

theorem building_alloc {w wr : World} {n : Nat} {A : Nat → Asg} {j k : Nat} (h : Building w wr n A j k) (o : Obj) : Building w (wr.alloc o) n A j k :=
  ⟨h.below.alloc h.below.size _, by have := h.size; simp; omega, h.res.alloc _, h.cols.alloc _, h.vals.alloc _⟩

theorem building_val {w wr : World} {n : Nat} {A : Nat → Asg} {j k : Nat} (h : Building w wr n A j k) : Building w (put3 wr (w.heap.size + 1 + 1) (k * 3) (A k).v).drew n A j (k + 1) :=
  ⟨(below_put3 h.below (by omega) _ _).drew, by have := h.size; simpa [put3] using this, (row_put3_other h.res (by omega) _ _).drew, (row_put3_other h.cols (by omega) _ _).drew, (rowT_put h.vals k (A k).v (fun i _ => upto_step (fun i => (A i).v) nul k i)).drew⟩

set_option maxHeartbeats 1600000 in
set_option maxRecDepth 100000 in
theorem build_any (e r : Bool) (a : Option Addr) (n c : Nat) (A : Nat → Asg) (w : World) (h : SlA w a n c A) (hn : n ≤ 1048576) :
    Calls Try.prog 21 #[.bool e, .bool r, .slice a n c] w fun e' w' => ∃ a' c', e' = .returned (.agg #[.bool e, .bool r, .slice a' n c']) ∧ SlA w' a' n c' A ∧ Below w.heap.size w w' ∧ (∀ x, a' = some x → w.heap.size ≤ x.block) := by
  have hmk1 := run_make_row' (P := Try.prog) 63 3 (.int .i64 0) 8 Try.underlying63 Try.info3 rfl .i64 .i64 n (by omega) (by omega)
  have hmk2 := run_make_struct (P := Try.prog) 64 67 _ 3 32 Try.underlying64 Try.info67 .i64 .i64 n (by omega) (by omega)
  simp only [Value.cells] at hmk2
  obtain ⟨b, off, ha, hc⟩ := h.open
  clear h
  go_enter Try.func21, Try.ntmps21
  go_wp2
  clear hmk1 hmk2
  go_loopg [9] n (fun gh i wr => ∃ k : Nat, k ≤ n ∧ gh = n - k ∧ i = .int .i64 (k : Nat) ∧ Building w wr n A k k)
  case atStart => exact ⟨0, Nat.zero_le _, rfl, rfl, building_start w n A⟩
  case round =>
    obtain ⟨k, hk, rfl, rfl, hF⟩ := hrel
    by_cases hlt : k < n
    · obtain rfl := ha (by omega)
      have hkz : (k : Int) < (n : Int) := by omega
      go_upto_region 6 with fail
      go_cut [9] from 16 to 48 (fun s9 wx => s9 = .int .i64 (k : Nat) ∧ Building w wx n A (k + 1) k)
      case first =>
        obtain ⟨e0, e1, e2, e3⟩ := (hc k hlt).later hF.below
        obtain ⟨u0, g0⟩ : ∃ u0, wr.cell? ⟨w.heap.size + 1, k, none⟩ = some u0 := ⟨_, hF.cols.cell hlt⟩
        have g1 := hF.cols.frozen k
        clear hc
        go_wp2_with fail
        go_meet
        go_light
        exact ⟨rfl, building_col hF⟩
      case rest =>
        clear hF
        obtain ⟨rfl, hF⟩ := hcut
        obtain ⟨e0, e1, e2, e3⟩ := (hc k hlt).later hF.below
        have hF2 := fun o => building_alloc hF o
        have d : ∀ o, Three (wc.alloc o) (w.heap.size + 1 + 1) (k * 3) _ := fun o => three_of_row (hF2 o).vals hlt
        have d0 := fun o => (d o).c0
        have d1 := fun o => (d o).c1
        have d2 := fun o => (d o).c2
        have f0 := fun o => (hF2 o).vals.frozen (k * 3)
        have f1 := fun o => (hF2 o).vals.frozen (k * 3 + 1)
        have f2 := fun o => (hF2 o).vals.frozen (k * 3 + 2)
        clear d hc
        go_wp2_with fail
        go_region_with (go_at_call 33; refine (mkval_any _ _ _ _).mono ?_; rintro e w' ⟨rfl, rfl⟩)
        all_goals go_wp2_with fail
        all_goals
          go_roundg (n - (k + 1))
          case measure => go_light; omega
          case rel => go_light; exact ⟨k + 1, by omega, rfl, by go_num, building_val (hF2 _)⟩
    · have e1 : k = n := by omega
      subst e1
      have hcr : wr.rowIs (w.heap.size + 1) 3 k (fun i => .int .i64 (A i).c) := hF.cols.congr (fun i hi => by unfold colF; rw [if_pos hi])
      have hvr : wr.rowIs (w.heap.size + 1 + 1) 67 (k * 3) (trip fun i => (A i).v) := hF.vals.congr (fun i hi => by unfold trip upto; rw [if_pos (by omega)])
      have hres := hF.res
      have hbl := hF.below
      have hsz0 := hF.size
      clear hF hc ha
      go_wp2_with fail
      refine (from_any e r (w.heap.size + 1) (w.heap.size + 1 + 1) k A wr hcr hvr hn).mono ?_
      rintro e' w1 ⟨a', c', rfl, hS', hb', hx'⟩
      have hsz : w.heap.size + 3 ≤ wr.heap.size := hsz0
      have hres' := rowIs_later hres hb'
      have hb1 : Below w.heap.size w w1 := hbl.trans (hb'.mono hbl.size)
      have r0 : w1.cell? ⟨w.heap.size, 0, none⟩ = some (.bool false) := hres'.cell (i := 0) (by omega)
      have r1 : w1.cell? ⟨w.heap.size, 1, none⟩ = some (.bool false) := hres'.cell (i := 1) (by omega)
      have r2 : w1.cell? ⟨w.heap.size, 2, none⟩ = some (.slice none 0 0) := hres'.cell (i := 2) (by omega)
      have f0 := hres'.frozen 0
      have f1 := hres'.frozen 1
      have f2 := hres'.frozen 2
      clear hcr hvr hres hb' hbl
      go_wp2
      refine bodyPost_ret (v := .agg #[.bool e, .bool r, .slice a' k c']) (by simp [results, Try.results21, go_sem, r0, r1, r2]) rfl ⟨a', c', rfl, ?_, ?_, fun x hx => by have := hx' x hx; omega⟩
      · have hy : ∀ x, a' = some x → x.block ≠ w.heap.size := fun x hx => by have := hx' x hx; omega
        exact ((hS'.setOther _ _ hy).setOther _ _ hy).setOther _ _ hy
      · exact ((hb1.setCell (Nat.le_refl _) _).setCell (Nat.le_refl _) _).setCell (Nat.le_refl _) _
end Go.Proofs.Qxb6605262a
