import Derived.Test.Qxb6605219aEnds
namespace Go.Proofs.Qxb6605219a
open Go.RowKit
set_option linter.unusedVariables false

theorem Sl.open {w : World} {a : Option Addr} {n c : Nat} {zs : List Int} (h : Sl w a n c zs) :
    ∃ b off, (0 < n → a = some ⟨b, off, none⟩) ∧ ∀ i, i < n → w.cell? ⟨b, off + i, none⟩ = some (.int .i64 (zs.getD i 0)) := by
  rcases h.cells with h0 | ⟨b, off, ha, hc⟩
  · exact ⟨0, 0, fun h => by omega, fun i hi => by omega⟩
  · exact ⟨b, off, fun _ => ha, hc⟩

theorem copying_step' {w wr : World} {n : Nat} {zs : List Int} {k : Nat} (h : Copying w wr n zs k) {v : Int} (hv : v = zs[k]?.getD 0) : Copying w (wr.setCell ⟨w.heap.size, k, none⟩ (.int .i64 v)) n zs (k + 1) := by
  rw [hv]; exact copying_step h

theorem app_left {zs ys : List Int} {k : Nat} (h : k < zs.length) : zs[k]?.getD 0 = (zs ++ ys)[k]?.getD 0 := by
  rw [List.getElem?_append_left h]
theorem app_right {zs ys : List Int} {n k : Nat} (h : zs.length = n) : ys[k]?.getD 0 = (zs ++ ys)[n + k]?.getD 0 := by
  rw [List.getElem?_append_right (by omega), h, Nat.add_sub_cancel_left]

set_option maxHeartbeats 800000 in
theorem concat_any (a : Option Addr) (n c : Nat) (zs : List Int) (b : Option Addr) (m d : Nat) (ys : List Int) (w : World) (h1 : Sl w a n c zs) (h2 : Sl w b m d ys) (hn : n ≤ 1048576) (hm : m ≤ 1048576) :
    Calls Try.prog 11 #[.slice a n c, .slice b m d] w fun e w' => ∃ a', e = .returned (.slice a' (n + m) (n + m)) ∧ Sl w' a' (n + m) (n + m) (zs ++ ys) ∧ Below w.heap.size w w' := by
  have hmk := run_make_row' (P := Try.prog) 22 2 (.int .i64 0) 8 Try.underlying22 Try.info2 rfl .i64 .i64 (n + m) (by omega) (by omega)
  have e1 : ((n + m : Nat) : Int) = (n : Int) + (m : Int) := by omega
  rw [e1] at hmk
  have HL : Hid (zs.length = n ∧ ys.length = m) := ⟨h1.len, h2.len⟩
  obtain ⟨ba, oa, ha, hca⟩ := h1.open
  obtain ⟨bb, ob, hb, hcb⟩ := h2.open
  clear h1 h2 e1
  go_enter Try.func11, Try.ntmps11
  go_wp2
  clear hmk
  go_loopg [6] n (fun g i wr => ∃ k : Nat, k ≤ n ∧ g = n - k ∧ i = .int .i64 k ∧ Copying w wr (n + m) (zs ++ ys) k)
  case atStart => exact ⟨0, Nat.zero_le _, rfl, rfl, copying_start w (n + m) _⟩
  case round =>
    obtain ⟨k, hk, rfl, rfl, hC⟩ := hrel
    by_cases hlt : k < n
    · obtain rfl := ha (by omega)
      have g0 : wr.cell? ⟨ba, oa + k, none⟩ = some (.int .i64 (zs.getD k 0)) := cell_later hC.below (hca k hlt)
      have g1 : wr.cell? ⟨w.heap.size, k, none⟩ = some (part (zs ++ ys) k k) := hC.row.cell (by omega)
      have g2 : wr.frozen? ⟨w.heap.size, k, none⟩ = false := hC.row.frozen k
      clear hca hcb ha hb
      go_wp2
      go_roundg (n - (k + 1))
      case measure => go_light; omega
      case rel => go_light; exact ⟨k + 1, by omega, rfl, by go_num, copying_step' hC (app_left (by rw [HL.out.1]; exact hlt))⟩
    · have e : k = n := by omega
      subst e
      clear hca ha
      go_wp2
      go_loopg [7] m (fun g i wr => ∃ j : Nat, j ≤ m ∧ g = m - j ∧ i = .int .i64 j ∧ Copying w wr (k + m) (zs ++ ys) (k + j))
      case atStart => exact ⟨0, Nat.zero_le _, rfl, rfl, hC⟩
      case round =>
        obtain ⟨j, hj, rfl, rfl, hC2⟩ := hrel
        clear hC
        by_cases hlt2 : j < m
        · obtain rfl := hb (by omega)
          have g0 : wr.cell? ⟨bb, ob + j, none⟩ = some (.int .i64 (ys.getD j 0)) := cell_later hC2.below (hcb j hlt2)
          have g1 : wr.cell? ⟨w.heap.size, k + j, none⟩ = some (part (zs ++ ys) (k + j) (k + j)) := hC2.row.cell (by omega)
          have g2 : wr.frozen? ⟨w.heap.size, k + j, none⟩ = false := hC2.row.frozen (k + j)
          clear hcb hb
          go_wp2
          go_roundg (m - (j + 1))
          case measure => go_light; omega
          case rel => go_light; exact ⟨j + 1, by omega, rfl, by go_num, copying_step' hC2 (app_right HL.out.1)⟩
        · have e : j = m := by omega
          subst e
          go_wp2
          go_ret
          exact ⟨_, rfl, copying_done (by rw [List.length_append, HL.out.1, HL.out.2]) hC2, hC2.below⟩
end Go.Proofs.Qxb6605219a
